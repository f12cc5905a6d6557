/-
  WALKS: bytes.Equal and ConstantTimeCompare of sixteen bytes, and ctCompareU16 of a row of numbers, say whether the two rows are one; the world is as it was but for the count of draws. Conditions: bytes lie from 0 to 255, numbers from 0 to 65535, the cells are known.
-/
import Derived.Test.YtjmggahedcbjkaaEq
import Derived.Test.YtjmggahedcbjkaaVal
import Derived.Laws.BytesArg
import Derived.Lib.Bytes
import Derived.Laws.BitsAllLaws
namespace Go.Proofs.Ytjmggahedcbjkaa
open Go.RowKit Go.Lib

/-- A row of n bytes as a string. -/
noncomputable def str (f : Nat → Int) (n : Nat) : ByteArray := strOfNums ((List.range n).map f)
theorem str_eq {f g : Nat → Int} {n : Nat} (h : ∀ j, j < n → f j = g j) : str f n = str g n := by
  unfold str
  congr 1
  exact List.map_congr_left fun j hj => h j (List.mem_range.1 hj)
theorem str_ne {f g : Nat → Int} (hf : Bytes f) (hg : Bytes g) {n : Nat} (h : (str f n).toList = (str g n).toList) (j : Nat) (hj : j < n) : f j = g j := by
  have e : ∀ f : Nat → Int, (str f n).toList = ((List.range n).map f).map fun m => UInt8.ofNat m.toNat := fun f => by
    rw [str, Lib.strOfNums_toList]; rfl
  rw [e, e] at h
  have hj1 := congrArg (fun l => l[j]?) h
  simp [hj] at hj1
  have a := hf j
  have b := hg j
  have := congrArg UInt8.toNat hj1
  simp [UInt8.toNat_ofNat'] at this
  omega

theorem str_conv (b o n c : Nat) (f : Nat → Int) (w : World) (h : ∀ j, j < n → w.cell? ⟨b, o + j, none⟩ = some (.int .u8 (f j))) :
    (convert 22 9 (.slice (some ⟨b, o, none⟩) n c)).run Try.prog w = .ok (.string (str f n)) w :=
  run_convert_bytes_arg w 22 5 Try.underlying22 Try.underlying5 b o n c ((List.range n).map f) (by simp) (fun i hi => by rw [h i hi]; simp [hi]) 9 Try.underlying9

set_option maxHeartbeats 400000 in
theorem cmp22 (b1 o1 c b2 o2 d : Nat) (f g : Nat → Int) (w : World) (hf : Bytes f) (hg : Bytes g)
    (hc1 : ∀ j, j < 16 → w.cell? ⟨b1, o1 + j, none⟩ = some (.int .u8 (f j))) (hc2 : ∀ j, j < 16 → w.cell? ⟨b2, o2 + j, none⟩ = some (.int .u8 (g j))) :
    Calls Try.prog 22 #[.slice (some ⟨b1, o1, none⟩) 16 c, .slice (some ⟨b2, o2, none⟩) 16 d] w fun e w' => e = .returned (.bool (eqUpto f g 16)) ∧ w' = w := by
  have g1 := str_conv b1 o1 16 c f w hc1
  have g2 := str_conv b2 o2 16 d g w hc2
  clear hc1 hc2
  by_cases hE : ∀ j, j < 16 → f j = g j
  · rw [eqUpto_yes hE]
    rw [← str_eq hE] at g2
    clear hE
    generalize str f 16 = S at g1 g2
    go_enter Try.func22, Try.ntmps22
    go_wp2
    go_ret
    exact ⟨by simp, rfl⟩
  · have hne : ¬ (str f 16).toList = (str g 16).toList := fun h => hE fun j hj => str_ne hf hg h j hj
    have hE2 : eqUpto f g 16 = false := decide_eq_false hE
    rw [hE2]
    clear hE hE2
    generalize str f 16 = S1 at g1 hne
    generalize str g 16 = S2 at g2 hne
    go_enter Try.func22, Try.ntmps22
    go_wp2
    go_ret
    exact ⟨by simp [hne], rfl⟩

theorem ret_int {k : IntKind} {a b : Int} (h : a = b) : Ending.returned (.int k a) = .returned (.int k b) := by rw [h]
/-- 1 where the two rows are one, else 0. -/
def one01 (b : Bool) : Int := if b = true then 1 else 0

set_option maxHeartbeats 400000 in
theorem cmp21 (b1 o1 c b2 o2 d : Nat) (f g : Nat → Int) (w : World) (hf : Bytes f) (hg : Bytes g)
    (hc1 : ∀ j, j < 16 → w.cell? ⟨b1, o1 + j, none⟩ = some (.int .u8 (f j))) (hc2 : ∀ j, j < 16 → w.cell? ⟨b2, o2 + j, none⟩ = some (.int .u8 (g j))) :
    Calls Try.prog 21 #[.slice (some ⟨b1, o1, none⟩) 16 c, .slice (some ⟨b2, o2, none⟩) 16 d] w fun e w' => e = .returned (.int .i64 (one01 (eqUpto f g 16))) ∧ w' = w := by
  have g1 := str_conv b1 o1 16 c f w hc1
  have g2 := str_conv b2 o2 16 d g w hc2
  clear hc1 hc2
  by_cases hE : ∀ j, j < 16 → f j = g j
  · rw [eqUpto_yes hE]
    rw [← str_eq hE] at g2
    clear hE
    generalize str f 16 = S at g1 g2
    go_enter Try.func21, Try.ntmps21
    go_wp2
    all_goals (go_ret; exact ⟨rfl, rfl⟩)
  · have hne : ¬ (str f 16).toList = (str g 16).toList := fun h => hE fun j hj => str_ne hf hg h j hj
    have hE2 : eqUpto f g 16 = false := decide_eq_false hE
    rw [hE2]
    clear hE hE2
    generalize str f 16 = S1 at g1 hne
    generalize str g 16 = S2 at g2 hne
    have hd : (S1.toList == S2.toList) = false := by simp [hne]
    go_enter Try.func21, Try.ntmps21
    go_wp2
    all_goals (go_ret; exact ⟨rfl, rfl⟩)

theorem u16or (a b : Int) (la : 0 ≤ a) (ha : a ≤ 65535) (lb : 0 ≤ b) (hb : b ≤ 65535) : 0 ≤ bits .or .u16 a b ∧ bits .or .u16 a b ≤ 65535 ∧ a ≤ bits .or .u16 a b ∧ b ≤ bits .or .u16 a b ∧ (bits .or .u16 a b = 0 ↔ a = 0 ∧ b = 0) := by
  obtain ⟨m, rfl⟩ := Int.eq_ofNat_of_zero_le la
  obtain ⟨n, rfl⟩ := Int.eq_ofNat_of_zero_le lb
  rw [u16_or_nat m n (by omega) (by omega)]
  have h1 : m ||| n < 2 ^ 16 := Nat.or_lt_two_pow (by omega) (by omega)
  have h2 : m ≤ m ||| n := Nat.left_le_or
  have h3 : n ≤ m ||| n := Nat.right_le_or
  have h4 : m ||| n = 0 ↔ m = 0 ∧ n = 0 := Nat.or_eq_zero_iff
  omega
theorem u16xor (a b : Int) (la : 0 ≤ a) (ha : a < 65536) (lb : 0 ≤ b) (hb : b < 65536) : 0 ≤ bits .xor .u16 a b ∧ bits .xor .u16 a b ≤ 65535 ∧ (bits .xor .u16 a b = 0 ↔ a = b) := by
  obtain ⟨m, rfl⟩ := Int.eq_ofNat_of_zero_le la
  obtain ⟨n, rfl⟩ := Int.eq_ofNat_of_zero_le lb
  rw [u16_xor_nat m n (by omega) (by omega)]
  have h1 : m ^^^ n < 2 ^ 16 := Nat.xor_lt_two_pow (by omega) (by omega)
  have h4 : m ^^^ n = 0 ↔ m = n := by
    constructor
    · intro h
      have : m ^^^ n ^^^ n = 0 ^^^ n := by rw [h]
      rwa [Nat.xor_assoc, Nat.xor_self, Nat.xor_zero, Nat.zero_xor] at this
    · rintro rfl
      exact Nat.xor_self _
  omega

/-- What has been gathered is 0 just if the rows are one so far. -/
def Gath (f g : Nat → Int) (k : Nat) (v : Int) : Prop := v = 0 ↔ Sofar f g k
theorem Gath.zero (f g : Nat → Int) : Gath f g 0 0 := ⟨fun _ _ hj => absurd hj (Nat.not_lt_zero _), fun _ => rfl⟩
theorem Gath.succ {f g : Nat → Int} {k : Nat} {v x y : Int} (h : Gath f g k v) (ex : f k = x) (ey : g k = y) (lv : 0 ≤ v) (uv : v ≤ 65535) (lx : 0 ≤ x) (hx : x < 65536) (ly : 0 ≤ y) (hy : y < 65536) :
    0 ≤ bits .or .u16 v (bits .xor .u16 x y) ∧ bits .or .u16 v (bits .xor .u16 x y) ≤ 65535 ∧ Gath f g (k + 1) (bits .or .u16 v (bits .xor .u16 x y)) := by
  obtain ⟨x1, x2, x3⟩ := u16xor x y lx hx ly hy
  obtain ⟨o1, o2, _, _, o3⟩ := u16or v (bits .xor .u16 x y) lv uv x1 x2
  refine ⟨o1, o2, ?_⟩
  unfold Gath at h ⊢
  rw [o3, h, x3]
  constructor
  · rintro ⟨h1, h2⟩
    exact h1.succ (by rw [ex, ey, h2])
  · intro h1
    exact ⟨fun j hj => h1 j (by omega), by rw [← ex, ← ey]; exact h1 k (by omega)⟩
theorem Gath.done {f g : Nat → Int} {n : Nat} {v : Int} (h : Gath f g n v) (lv : 0 ≤ v) (uv : v ≤ 65535) : wrap64 (bits .or .u16 v (IntKind.u16.wrap (-v)) / 32768) = 1 - one01 (eqUpto f g n) := by
  rw [IntKind.wrap_u16]
  by_cases h0 : v = 0
  · have : eqUpto f g n = true := eqUpto_yes (h.1 h0)
    rw [this, h0]
    decide +kernel
  · have : eqUpto f g n = false := decide_eq_false fun H => h0 (h.2 H)
    rw [this]
    have e : -v % 65536 = 65536 - v := by omega
    rw [e]
    obtain ⟨o1, o2, o4, o5, _⟩ := u16or v (65536 - v) lv uv (by omega) (by omega)
    have e2 : bits .or .u16 v (65536 - v) / 32768 = 1 := by omega
    rw [e2]
    decide +kernel

set_option maxHeartbeats 1000000 in
theorem ct_any (n b1 o1 c b2 o2 d : Nat) (f g : Nat → Int) (w : World) (hbig : n ≤ 9223372036854775807) (hf : ∀ i, 0 ≤ f i ∧ f i < 65536) (hg : ∀ i, 0 ≤ g i ∧ g i < 65536)
    (hc1 : ∀ j, j < n → w.cell? ⟨b1, o1 + j, none⟩ = some (.int .u16 (f j))) (hc2 : ∀ j, j < n → w.cell? ⟨b2, o2 + j, none⟩ = some (.int .u16 (g j))) :
    Calls Try.prog 20 #[.slice (some ⟨b1, o1, none⟩) n c, .slice (some ⟨b2, o2, none⟩) n d] w fun e w' => e = .returned (.int .i64 (1 - one01 (eqUpto f g n))) ∧ ∃ q, w' = w.drewN q := by
  go_enter Try.func20, Try.ntmps20
  go_wp2
  go_loopg [5, 14] n (fun gh s5 s14 wr => ∃ (k q : Nat) (v : Int), k ≤ n ∧ n - k ≤ gh ∧ s5 = .int .u16 v ∧ s14 = .int .i64 k ∧ wr = w.drewN q ∧ 0 ≤ v ∧ v ≤ 65535 ∧ Gath f g k v)
  case atStart => exact ⟨0, 0, 0, Nat.zero_le _, by omega, rfl, rfl, rfl, by omega, by omega, Gath.zero _ _⟩
  case round =>
    obtain ⟨k, q, v, hk, hgh, rfl, rfl, rfl, lv, uv, hG⟩ := hrel
    have G := Lib.hid hG
    clear hG
    by_cases hlt : k < n
    · have g1 : w.cell? ⟨b1, o1 + k, none⟩ = some (.int .u16 (f k)) := hc1 k hlt
      have g2 : w.cell? ⟨b2, o2 + k, none⟩ = some (.int .u16 (g k)) := hc2 k hlt
      obtain ⟨bx1, bx2⟩ := hf k
      obtain ⟨by1, by2⟩ := hg k
      clear hc1 hc2 hf hg
      obtain ⟨x, ex⟩ : ∃ x, f k = x := ⟨_, rfl⟩
      obtain ⟨y, ey⟩ : ∃ y, g k = y := ⟨_, rfl⟩
      rw [ex] at g1 bx1 bx2
      rw [ey] at g2 by1 by2
      have EX := Lib.hid ex
      have EY := Lib.hid ey
      clear ex ey
      go_wp2_with fail
      go_quiet (fail)
      go_wp2
      go_roundg (n - (k + 1))
      case measure => omega
      case rel =>
        have S := Gath.succ G.out EX.out EY.out lv uv bx1 bx2 by1 by2
        exact ⟨k + 1, q + nq, _, by omega, by omega, rfl, by go_num, rfl, S.1, S.2.1, S.2.2⟩
    · have : k = n := by omega
      subst this
      clear hc1 hc2 hf hg
      go_wp2
      go_ret
      exact ⟨ret_int (Gath.done G.out lv uv), q, rfl⟩

end Go.Proofs.Ytjmggahedcbjkaa
