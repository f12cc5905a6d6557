/-
  WALK: PrivateKey.Unpack reads 19888 bytes into a private key's block that is known whole and a new block; all else is as it was. Condition: the bytes lie in another block.
-/
import Derived.Test.YtjmggahedcbjkaaOf
namespace Go.Proofs.Ytjmggahedcbjkaa
open Go.RowKit Go.Lib

/-- The numbers of a private key's matrix. -/
def sec (f : Nat → Int) (i : Nat) : Int := f (9632 + (i * 2)) + f (9632 + (i * 2 + 1)) * 256

def sec16 (f : Nat → Int) (i : Nat) : Value := .int .u16 (sec f i)

/-- A pointer put into a row, and a new block laid. -/
theorem put_new {w1 W : World} {g N j : Nat} {cs1 Z : Array Value} {t T : TypeId} {v : Value} (hr : Row w1 g cs1 t) (hN : N = w1.heap.size) (hW : W = (w1.setCell ⟨g, j, none⟩ v).alloc (.cells Z T)) :
    Row W g (cs1.setIfInBounds j v) t ∧ Row W N Z T ∧ (∀ b o, b ≠ g → b < N → W.cell? ⟨b, o, none⟩ = w1.cell? ⟨b, o, none⟩) ∧ (∀ B, B ≤ g → B ≤ N → Below B w1 W) ∧ W.heap.size = N + 1 := by
  subst hN hW
  have hs : (w1.setCell ⟨g, j, none⟩ v).heap.size = w1.heap.size := World.size_setCell _ _ _
  have hlt : g < (w1.setCell ⟨g, j, none⟩ v).heap.size := by rw [hs]; exact hr.lt
  refine ⟨?_, ?_, fun b o hb hlt2 => ?_, fun B h1 h2 => ?_, ?_⟩
  · exact (Below.heap_alloc _ _ g hlt).trans (heap_setCell_same w1 g j cs1 t v hr)
  · have := Row.of_alloc (w1.setCell ⟨g, j, none⟩ v) Z T
    rwa [hs] at this
  · rw [World.cell?_alloc_lt _ _ ⟨b, o, none⟩ (by rw [hs]; exact hlt2)]
    exact (Only.setCell g j none w1 v).cell b o hb
  · exact ((Only.setCell g j none w1 v).below h1).alloc (by rw [hs]; exact h2) _
  · rw [World.size_alloc, hs]

theorem or16low (x y : Int) (lx : 0 ≤ x) (hx : x ≤ 255) (ly : 0 ≤ y) (hy : y ≤ 255) : bits .or .u16 x (y * 256) = x + y * 256 := by
  rw [u16_or _ _ (by omega) (by omega) (by omega) (by omega), Nat.or_comm, ← u16_or _ _ (by omega) (by omega) (by omega) (by omega), or16 8 _ _ (by omega) (by omega) (by omega) (by omega) (by omega) (by omega)]
  omega

/-- Blocks g and N hold the private key of the bytes f. -/
def SkAt (f : Nat → Int) (g N : Nat) (t : TypeId) (w : World) : Prop :=
  (∃ cs, Row w g cs t ∧ cs.size = 5153 ∧ (∀ i, i < 16 → cs[i]? = some (.int .u8 (f i))) ∧ cs[16]? = some (.pointer (some ⟨N, 0, none⟩)) ∧ (∀ i, i < 5120 → cs[17 + i]? = some (.int .u16 (sec f i))) ∧
    (∀ i, i < 16 → cs[5137 + i]? = some (.int .u8 (f (19872 + i))))) ∧ PkAt (fun i => f (16 + i)) N 42 w

/-- What PrivateKey.Unpack does to the world. -/
def SkMade (f : Nat → Int) (g : Nat) (t : TypeId) (w w' : World) : Prop := SkAt f g w.heap.size t w' ∧ (∀ B, B ≤ g → B ≤ w.heap.size → Below B w w') ∧ w'.heap.size = w.heap.size + 1

theorem row_one {w : World} {g : Nat} {t : TypeId} {a b : Array Value} (h1 : Row w g a t) (h2 : Row w g b t) : a = b := by
  have := h1.symm.trans h2
  simpa using this

theorem sk_done {f : Nat → Int} {g N : Nat} {t : TypeId} {w w1 W4 w5 wr w9 : World} {cs0 cs1 cs8 Z : Array Value} (hsz : cs0.size = 5153) (h1 : Filled w g cs0 t 0 (val8 f) 16 w1) (hr1 : Row w1 g cs1 t)
    (_p1 : Row W4 g (cs1.setIfInBounds 16 (.pointer (some ⟨N, 0, none⟩))) t) (_p2 : Row W4 N Z 42) (p4 : ∀ B, B ≤ g → B ≤ N → Below B w1 W4) (p5 : W4.heap.size = N + 1) (hN : N = w1.heap.size) (hNg : N ≠ g)
    (k5 : PkAt (fun i => f (16 + i)) N 42 w5) (o5 : Only N W4.drew w5) (h7 : Filled w5 g (cs1.setIfInBounds 16 (.pointer (some ⟨N, 0, none⟩))) t 17 (sec16 f) 5120 wr) (r8 : Row wr g cs8 t)
    (h9 : Filled wr g cs8 t 5137 (val8 fun i => f (19872 + i)) 16 w9) : Ending.returned (.tuple #[]) = .returned (.tuple #[]) ∧ SkMade f g t w w9 := by
  have hNw : N = w.heap.size := hN.trans h1.only.size
  obtain ⟨a1, hr1', o1, z1, v1, _⟩ := h1
  obtain rfl := row_one hr1' hr1
  obtain ⟨a8, hr8', o8, z8, v8, s8⟩ := h7
  obtain rfl := row_one hr8' r8
  obtain ⟨a9, hr9, o9, z9, v9, s9⟩ := h9
  have zz : a1.size = 5153 := z1.trans hsz
  refine ⟨rfl, ⟨⟨a9, hr9, ?_, fun i hi => ?_, ?_, fun i hi => ?_, fun i hi => v9 i hi⟩, ?_⟩, fun B hBg hBN => ?_, ?_⟩
  · rw [z9, z8, Array.size_setIfInBounds, zz]
  · rw [s9 i (by omega), s8 i (by omega), Array.getElem?_setIfInBounds, if_neg (by omega)]
    have := v1 i hi
    rwa [Nat.zero_add] at this
  · rw [s9 16 (by omega), s8 16 (by omega), Array.getElem?_setIfInBounds, if_pos rfl, if_pos (by omega), ← hNw]
  · rw [s9 (17 + i) (by omega)]
    exact v8 i hi
  · rw [← hNw]
    exact (k5.kept o8 hNg).kept o9 hNg
  · rw [← hNw] at hBN
    exact (((o1.below hBg).trans (p4 B hBg hBN)).drew.trans (o5.below hBN)).trans ((o8.below hBg).trans (o9.below hBg))
  · rw [o9.size, o8.size, o5.size, World.size_drew, p5, hNw]

set_option maxRecDepth 100000 in
set_option maxHeartbeats 2000000 in
theorem unpackSk_any (g b o c : Nat) (f : Nat → Int) (cs0 : Array Value) (t : TypeId) (w : World) (hc : 19888 ≤ c) (hc2 : c ≤ 9223372036854775807) (hne : b ≠ g) (hb : b < w.heap.size) (hg : g < w.heap.size) (hf : Bytes f)
    (hin : ∀ i, i < 19888 → w.cell? ⟨b, o + i, none⟩ = some (.int .u8 (f i))) (hr : Row w g cs0 t) (hsz : cs0.size = 5153) :
    Calls Try.prog 19 #[.pointer (some ⟨g, 0, none⟩), .slice (some ⟨b, o, none⟩) 19888 c] w fun e w' => e = .returned (.tuple #[]) ∧ SkMade f g t w w' := by
  have h1 : (16 : Int) ≤ (c : Int) := by omega
  have h2 : ¬ c = 0 := by omega
  have h3 : ¬ c = 16 := by omega
  obtain ⟨Z, hZ, hz⟩ := zero42
  have HR := Lib.hid hr
  have HIN := Lib.hid hin
  have HSZ := Lib.hid hsz
  have HF := Lib.hid hf
  have HNE := Lib.hid hne
  have HZ := Lib.hid hz
  clear hr hin hsz hf hne hz
  go_enter Try.func19, Try.ntmps19
  go_wp2_with fail
  go_still_tail 6, (by kernel_rfl)
  change wpList _ _ _ _ _ w.drew
  refine wpList_copy_only rfl (.tmp 12) (.tmp 14) 22 22 rfl 5 Try.underlying22 size5 g 0 16 16 b o 16 c rfl rfl cs0 t HR.out 16 (val8 f) (by decide) (fun _ => rfl) (fun j hj => HIN.out j (by omega)) (by rw [HSZ.out]; omega) ?_
  intro w1 F1
  have G1 := Lib.hid F1.pre
  clear F1
  obtain ⟨cs1, hr1, hz1, ha1, -⟩ := G1.out.row
  have s1 : w1.heap.size = w.heap.size := G1.out.only.size
  have hg1 : g < w1.heap.size := by omega
  have fr : w1.frozen? ⟨g, 16, none⟩ = false := hr1.free 16
  have ce : w1.cell? ⟨g, 16, none⟩ = some cs1[16]! := by
    have h16 : 16 < cs1.size := by rw [hz1, HSZ.out]; omega
    rw [hr1.cell, Array.getElem!_eq_getD]; simp [h16]
  generalize cs1[16]! = v16 at ce
  have S1 := Lib.hid s1
  have HR1 := Lib.hid hr1
  have HZ1 := Lib.hid hz1
  have HA1 := Lib.hid ha1
  clear s1 hr1 hz1 ha1
  go_wp2_with fail
  obtain ⟨N, hN⟩ : ∃ N, N = w1.heap.size := ⟨_, rfl⟩
  obtain ⟨d, hd⟩ : ∃ d, d = c - 16 := ⟨_, rfl⟩
  rw [← hN, ← hd]
  obtain ⟨W4, hW4⟩ : ∃ W4, W4 = (w1.setCell ⟨g, 16, none⟩ (.pointer (some ⟨N, 0, none⟩))).alloc (.cells Z 42) := ⟨_, rfl⟩
  rw [← hW4]
  have d1 : (9616 : Int) ≤ (d : Int) := by omega
  have d2 : ¬ d = 0 := by omega
  have d3 : ¬ d = 9616 := by omega
  have d4 : d ≤ 9223372036854775807 := by omega
  have d5 : 19872 ≤ d := by omega
  obtain ⟨p1, p2, p3, p4, p5⟩ := put_new HR1.out hN hW4
  have h16 : 16 < cs1.size := by rw [HZ1.out, HSZ.out]; omega
  have hptr : W4.cell? ⟨g, 16, none⟩ = some (.pointer (some ⟨N, 0, none⟩)) := by rw [p1.cell, Array.getElem?_setIfInBounds, if_pos rfl, if_pos h16]
  have hNg : N ≠ g := by omega
  have hbN : b < N := by have := S1.out; omega
  have hin4 : ∀ i, i < 9616 → W4.drew.cell? ⟨b, o + 16 + i, none⟩ = some (.int .u8 (f (16 + i))) := fun i hi => by
    rw [World.cell?_drew, p3 b _ HNE.out hbN, G1.out.only.cell b _ HNE.out, Nat.add_assoc]
    exact HIN.out (16 + i) (by omega)
  have EN := Lib.hid hN
  have P1 := Lib.hid p1
  have P2 := Lib.hid p2
  have P3 := Lib.hid p3
  have P4 := Lib.hid p4
  have P5 := Lib.hid p5
  have HIN4 := Lib.hid hin4
  have HNG := Lib.hid hNg
  clear hW4 hN hd ce fr h1 h2 h3 p1 p2 p3 p4 p5 hin4 hNg h16 hg1
  go_still_tail 6, (by kernel_rfl)
  change wpList _ _ _ _ _ W4.drew
  go_wp2_with (go_at_call 17; refine (unpackPk_any N b (o + 16) d (fun i => f (16 + i)) Z 42 _ (by omega) d4 (Nat.ne_of_lt hbN) (fun i => HF.out (16 + i)) HIN4.out P2.out HZ.out).mono ?_; rintro e w5 ⟨rfl, K5, O5⟩)
  obtain ⟨o6, ho6⟩ : ∃ o6, o6 = o + 16 + 9616 := ⟨_, rfl⟩
  obtain ⟨d6, hd6⟩ : ∃ d6, d6 = d - 9616 := ⟨_, rfl⟩
  rw [← ho6, ← hd6]
  have e1 : (10240 : Int) ≤ (d6 : Int) := by omega
  have e2 : ¬ d6 = 10240 := by omega
  have e3 : d6 ≤ 9223372036854775807 := by omega
  have e4 : 10256 ≤ d6 := by omega
  have hgN : g ≠ N := fun h => HNG.out h.symm
  have r5 : Row w5 g (cs1.setIfInBounds 16 (.pointer (some ⟨N, 0, none⟩))) t := O5.row hgN P1.out
  have z5 : (cs1.setIfInBounds 16 (.pointer (some ⟨N, 0, none⟩))).size = 5153 := by rw [Array.size_setIfInBounds, HZ1.out, HSZ.out]
  have hin5 : ∀ i, i < 10256 → w5.cell? ⟨b, o6 + i, none⟩ = some (.int .u8 (f (9632 + i))) := fun i hi => by
    rw [O5.cell b _ (Nat.ne_of_lt hbN)]
    show W4.cell? _ = _
    rw [P3.out b _ HNE.out hbN, G1.out.only.cell b _ HNE.out, ho6, show o + 16 + 9616 + i = o + (9632 + i) by omega]
    exact HIN.out (9632 + i) (by omega)
  have R5 := Lib.hid r5
  have Z5 := Lib.hid z5
  have IN5 := Lib.hid hin5
  have HK5 := Lib.hid K5
  have HO5 := Lib.hid O5
  have HO6 := Lib.hid ho6
  clear ho6 hd6 r5 z5 hin5 K5 O5 d1 d2 d3 d4 d5 hptr hgN
  go_loopg [4, 31] 5120 (fun gh s4 s31 wr => ∃ k : Nat, k ≤ 5120 ∧ 5120 - k ≤ gh ∧ s31 = .int .i64 (k : Int) ∧ Filled w5 g (cs1.setIfInBounds 16 (.pointer (some ⟨N, 0, none⟩))) t 17 (sec16 f) k wr)
  case atStart => exact ⟨0, by omega, by omega, rfl, Filled.zero R5.out _ _⟩
  case round =>
    obtain ⟨k, hk, hgh, rfl, H⟩ := hrel
    by_cases hlt : k < 5120
    · have c1 : wr.cell? ⟨b, o6 + k * 2, none⟩ = some (.int .u8 (f (9632 + k * 2))) := (H.only.cell b _ HNE.out).trans (IN5.out (k * 2) (by omega))
      have c2 : wr.cell? ⟨b, o6 + (k * 2 + 1), none⟩ = some (.int .u8 (f (9632 + (k * 2 + 1)))) := (H.only.cell b _ HNE.out).trans (IN5.out (k * 2 + 1) (by omega))
      have bx := HF.out (9632 + k * 2)
      have bz := HF.out (9632 + (k * 2 + 1))
      obtain ⟨v, dv⟩ := H.next k (Nat.le_refl _) (by rw [Z5.out]; omega)
      have fv := H.free (17 + k)
      obtain ⟨x, ex⟩ : ∃ x, f (9632 + k * 2) = x := ⟨_, rfl⟩
      obtain ⟨y, ey⟩ : ∃ y, f (9632 + (k * 2 + 1)) = y := ⟨_, rfl⟩
      rw [ex] at c1 bx
      rw [ey] at c2 bz
      obtain ⟨bx1, bx2⟩ := bx
      obtain ⟨by1, by2⟩ := bz
      have EX := Lib.hid ex
      have EY := Lib.hid ey
      have HH := Lib.hid H
      clear ex ey H
      have n1 : (0 : Int) ≤ (k : Int) * 2 := by omega
      have n2 : (0 : Int) ≤ (k : Int) * 2 + 1 := by omega
      have n5 : (k : Int) * 2 < 10256 := by omega
      have n6 : (k : Int) * 2 + 1 < 10256 := by omega
      have w1' : IntKind.i64.wrap ((k : Int) * 2) = (k : Int) * 2 := IntWalk.i64_in _ (by omega)
      have w2' : IntKind.i64.wrap ((k : Int) * 2 + 1) = (k : Int) * 2 + 1 := IntWalk.i64_in _ (by omega)
      have n3 : ((k : Int) * 2).toNat = k * 2 := by omega
      have n4 : ((k : Int) * 2 + 1).toNat = k * 2 + 1 := by omega
      go_wp2_with fail
      go_still_tail 20, (by kernel_rfl)
      change wpList _ _ _ _ _ wr.drew
      go_wp2_with fail
      go_roundg (5120 - (k + 1))
      case measure => omega
      case rel =>
        clear w1' w2' n3 n4
        exact ⟨k + 1, by omega, by omega, by go_num, (HH.out.store (by rw [Z5.out]; omega) (by rw [or16low x y bx1 bx2 by1 by2, ← EX.out, ← EY.out]; rfl)).drew⟩
    · obtain rfl : k = 5120 := by omega
      have H7 := Lib.hid H
      clear H
      go_wp2_with fail
      obtain ⟨o8, ho8⟩ : ∃ o8, o8 = o6 + 10240 := ⟨_, rfl⟩
      obtain ⟨d8, hd8⟩ : ∃ d8, d8 = d6 - 10240 := ⟨_, rfl⟩
      rw [← ho8, ← hd8]
      have e5 : ¬ d8 = 0 := by omega
      have r8 := H7.out.row
      obtain ⟨cs8, r8, z8, -, -⟩ := r8
      have hin8 : ∀ i, i < 16 → wr.drew.cell? ⟨b, o8 + i, none⟩ = some (.int .u8 (f (19872 + i))) := fun i hi => by
        rw [World.cell?_drew, H7.out.only.cell b _ HNE.out, ho8, Nat.add_assoc, IN5.out (10240 + i) (by omega), show 9632 + (10240 + i) = 19872 + i by omega]
      have R8 := Lib.hid r8
      have Z8 := Lib.hid z8
      have IN8 := Lib.hid hin8
      clear ho8 hd8 r8 z8 hin8 e1 e2 e3 e4
      go_still_tail 6, (by kernel_rfl)
      change wpList _ _ _ _ _ wr.drew
      refine wpList_copy_only rfl (.tmp 60) (.tmp 62) 22 22 rfl 5 Try.underlying22 size5 g 5137 16 16 b o8 16 d8 rfl rfl cs8 t R8.out 16 (val8 fun i => f (19872 + i)) (by decide) (fun _ => rfl) IN8.out (by rw [Z8.out, Z5.out]; omega) ?_
      intro w9 F9
      have G9 := Lib.hid F9.pre
      clear F9
      go_wp2_with fail
      go_end0
      exact sk_done HSZ.out G1.out HR1.out P1.out P2.out P4.out P5.out EN.out HNG.out HK5.out HO5.out H7.out R8.out G9.out

end Go.Proofs.Ytjmggahedcbjkaa
