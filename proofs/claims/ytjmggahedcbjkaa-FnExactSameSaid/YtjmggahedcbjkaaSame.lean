/-
  For every input the law FnExactSame returns true (keys of 9616 bytes, or private ones of 19888 bytes, are equal just if their bytes are) and its arguments read as before. Conditions: none beyond the given row's.
  The frame round the walk was written by the kit's proof-skeleton.mjs; the walk is this session's.
-/
import Derived.Test.YtjmggahedcbjkaaRows
import Derived.WalkKit
import Derived.ProofKit
import Derived.OpenShut
import Derived.ShutString
import Derived.ChangeOld
import Derived.Below
import Derived.Test.YtjmggahedcbjkaaTwo
namespace Go.Proofs.Ytjmggahedcbjkaa.fnExactSame
open Go.ChangeShapes Go.WideShapes Go.ChangeAt Go.RowKit
open Go.ChangeMaps (open_string shut_string)
set_option linter.unusedVariables false

theorem own : ownKnob Try.prog.godebug = none := by kernel_rfl
theorem laidOut : laidOutB Try.prog = true := by kernel_rfl

/-- WHAT THE WALK IS TOLD OF A SLICE OF INTEGERS THAT CAME IN: it is nil; or it leads to a row of 'cap' cells, the numbers 'zs' (the first 'len' are its elements, the rest its spare room), each fitting its kind. -/
def IsRow (k : IntKind) (w : World) (a : Option Addr) (len cap : Nat) (zs : List Int) : Prop :=
  (a = none ∧ len = 0 ∧ cap = 0 ∧ zs = []) ∨
  ∃ x, a = some x ∧ len ≤ cap ∧ cap ≤ maxLen ∧ zs.length = cap ∧ (∀ i, i < zs.length → w.cell? (x.add i) = some (.int k (zs.getD i 0))) ∧ ∀ n ∈ zs, (Lit.int k n).wf = true

/-! ### THE WALK: the Go text returns true, and writes nothing that was there. -/
theorem bytes_of_wf {z : List Int} (h : ∀ n ∈ z, (Lit.int .u8 n).wf = true) : Bytes fun i => z.getD i 0 := by
  intro i
  have := range_u8 h i
  simpa using this

/-- What a row that came in gives to the walk, if it has an element. -/
theorem IsRow.lies {w : World} {a : Option Addr} {len cap : Nat} {z : List Int} (h : IsRow .u8 w a len cap z) (hl : 0 < len) :
    ∃ b o, a = some ⟨b, o, none⟩ ∧ b < w.heap.size ∧ len ≤ cap ∧ cap ≤ 9223372036854775807 ∧ (Bytes fun i => z.getD i 0) ∧ ∀ i, i < len → w.cell? ⟨b, o + i, none⟩ = some (.int .u8 (z.getD i 0)) := by
  rcases h with ⟨rfl, rfl, rfl, rfl⟩ | ⟨x, rfl, hlc, hm, hz, hcell, hwz⟩
  · omega
  · obtain ⟨b, o, spot⟩ := x
    have hc := hcell 0 (by omega)
    have hspot : spot = none := by simpa [Addr.add] using World.cell?_spot hc
    subst hspot
    refine ⟨b, o, rfl, block_lt_of_cell hc, hlc, hm, bytes_of_wf hwz, fun i hi => ?_⟩
    rw [← hcell i (by omega)]
    unfold Addr.add
    split <;> simp_all
theorem IsRow.len_le {w : World} {a : Option Addr} {len cap : Nat} {z : List Int} (h : IsRow .u8 w a len cap z) : len ≤ 9223372036854775807 := by
  rcases h with ⟨_, rfl, _, _⟩ | ⟨_, _, h1, h2, _⟩
  · exact Nat.zero_le _
  · exact Nat.le_trans h1 h2

set_option maxHeartbeats 400000 in
theorem walk_false (b1 o1 c1 : Nat) (b2 o2 c2 : Nat) (f h : Nat → Int) (w : World) (hc1 : 9616 ≤ c1) (hd1 : c1 ≤ 9223372036854775807) (hc2 : 9616 ≤ c2) (hd2 : c2 ≤ 9223372036854775807) (hb1 : b1 < w.heap.size) (hb2 : b2 < w.heap.size)
    (hf : Bytes f) (hh : Bytes h) (hin1 : ∀ i, i < 9616 → w.cell? ⟨b1, o1 + i, none⟩ = some (.int .u8 (f i))) (hin2 : ∀ i, i < 9616 → w.cell? ⟨b2, o2 + i, none⟩ = some (.int .u8 (h i))) :
    Calls Try.prog 5 #[.slice (some ⟨b1, o1, none⟩) 9616 c1, .slice (some ⟨b2, o2, none⟩) 9616 c2, .bool false] w fun e w' => e = .returned (.bool true) ∧ Below w.heap.size w w' := by
  have HF := Lib.hid hf
  have HH := Lib.hid hh
  have I1 := Lib.hid hin1
  have I2 := Lib.hid hin2
  clear hf hh hin1 hin2
  go_enter Try.func5, Try.ntmps5
  go_wp2_with fail
  refine (same_no b1 o1 c1 b2 o2 c2 f h w hc1 hd1 hc2 hd2 hb1 hb2 HF.out HH.out I1.out I2.out).mono ?_
  rintro e w1 ⟨rfl, B1⟩
  have HB1 := Lib.hid B1
  clear B1
  obtain ⟨v, hv⟩ : ∃ v, eqUpto f h 9616 = v := ⟨_, rfl⟩
  rw [hv]
  have HV := Lib.hid hv
  clear hv
  go_wp2_with fail
  refine (eq9_any 9616 b1 o1 c1 b2 o2 c2 f h w1 (by omega) (fun j hj => (HB1.out.cell (p := ⟨b1, o1 + j, none⟩) hb1).trans (I1.out j hj)) (fun j hj => (HB1.out.cell (p := ⟨b2, o2 + j, none⟩) hb2).trans (I2.out j hj))).mono ?_
  rw [HV.out]
  rintro e w2 ⟨rfl, q, rfl⟩
  go_wp2_with fail
  go_ret
  exact ⟨ret_bool (by simp), below_drewN HB1.out q⟩

set_option maxHeartbeats 400000 in
theorem walk_true (b1 o1 c1 : Nat) (b2 o2 c2 : Nat) (f h : Nat → Int) (w : World) (hc1 : 19888 ≤ c1) (hd1 : c1 ≤ 9223372036854775807) (hc2 : 19888 ≤ c2) (hd2 : c2 ≤ 9223372036854775807) (hb1 : b1 < w.heap.size) (hb2 : b2 < w.heap.size)
    (hf : Bytes f) (hh : Bytes h) (hin1 : ∀ i, i < 19888 → w.cell? ⟨b1, o1 + i, none⟩ = some (.int .u8 (f i))) (hin2 : ∀ i, i < 19888 → w.cell? ⟨b2, o2 + i, none⟩ = some (.int .u8 (h i))) :
    Calls Try.prog 5 #[.slice (some ⟨b1, o1, none⟩) 19888 c1, .slice (some ⟨b2, o2, none⟩) 19888 c2, .bool true] w fun e w' => e = .returned (.bool true) ∧ Below w.heap.size w w' := by
  have HF := Lib.hid hf
  have HH := Lib.hid hh
  have I1 := Lib.hid hin1
  have I2 := Lib.hid hin2
  clear hf hh hin1 hin2
  go_enter Try.func5, Try.ntmps5
  go_wp2_with fail
  refine (same_yes b1 o1 c1 b2 o2 c2 f h w hc1 hd1 hc2 hd2 hb1 hb2 HF.out HH.out I1.out I2.out).mono ?_
  rintro e w1 ⟨rfl, B1⟩
  have HB1 := Lib.hid B1
  clear B1
  obtain ⟨v, hv⟩ : ∃ v, eqUpto f h 19888 = v := ⟨_, rfl⟩
  rw [hv]
  have HV := Lib.hid hv
  clear hv
  go_wp2_with fail
  refine (eq9_any 19888 b1 o1 c1 b2 o2 c2 f h w1 (by omega) (fun j hj => (HB1.out.cell (p := ⟨b1, o1 + j, none⟩) hb1).trans (I1.out j hj)) (fun j hj => (HB1.out.cell (p := ⟨b2, o2 + j, none⟩) hb2).trans (I2.out j hj))).mono ?_
  rw [HV.out]
  rintro e w2 ⟨rfl, q, rfl⟩
  go_wp2_with fail
  go_ret
  exact ⟨ret_bool (by simp), below_drewN HB1.out q⟩

/-- The length asked for. -/
def want (p : Bool) : Nat := if p = true then 19888 else 9616

set_option maxHeartbeats 400000 in
theorem walk_long (a0 : Option Addr) (len0 cap0 : Nat) (a1 : Option Addr) (len1 cap1 : Nat) (a2 : Bool) (w : World) (l0 : len0 ≤ 9223372036854775807) (l1 : len1 ≤ 9223372036854775807)
    (h : 2147483647 < len0 ∨ 2147483647 < len1) :
    Calls Try.prog 5 #[.slice a0 len0 cap0, .slice a1 len1 cap1, .bool a2] w fun e w' => e = .returned (.bool true) ∧ Below w.heap.size w w' := by
  by_cases h1 : (2147483647 : Int) < (len0 : Int)
  · clear h
    go_enter Try.func5, Try.ntmps5
    go_wp2_with fail
    go_ret
    exact ⟨rfl, Below.refl _ _⟩
  · have h2 : (2147483647 : Int) < (len1 : Int) := by omega
    clear h
    go_enter Try.func5, Try.ntmps5
    go_wp2_with fail
    go_ret
    exact ⟨rfl, Below.refl _ _⟩

set_option maxHeartbeats 400000 in
theorem walk_other (a0 : Option Addr) (len0 cap0 : Nat) (a1 : Option Addr) (len1 cap1 : Nat) (a2 : Bool) (w : World)
    (l0 : ¬ 2147483647 < len0) (l1 : ¬ 2147483647 < len1) (h : ¬ (len0 = want a2 ∧ len1 = want a2)) :
    Calls Try.prog 5 #[.slice a0 len0 cap0, .slice a1 len1 cap1, .bool a2] w fun e w' => e = .returned (.bool true) ∧ Below w.heap.size w w' := by
  have k0 : ¬ (2147483647 : Int) < (len0 : Int) := by omega
  have k1 : ¬ (2147483647 : Int) < (len1 : Int) := by omega
  cases a2 with
  | false =>
    simp only [want, Bool.false_eq_true, if_false] at h
    by_cases h0 : len0 = 9616
    · have hn : ¬ len1 = 9616 := fun e => h ⟨h0, e⟩
      subst h0
      have h3 : ((len1 : Int) == 9616) = false := by simp; omega
      have h4 : ((len1 : Int) != 9616) = true := by simp; omega
      clear h hn
      go_enter Try.func5, Try.ntmps5
      go_wp2_with fail
      go_ret
      exact ⟨rfl, Below.refl _ _⟩
    · have h3 : ((len0 : Int) == 9616) = false := by simp; omega
      have h4 : ((len0 : Int) != 9616) = true := by simp; omega
      clear h h0
      go_enter Try.func5, Try.ntmps5
      go_wp2_with fail
      go_ret
      exact ⟨rfl, Below.refl _ _⟩
  | true =>
    simp only [want, if_true] at h
    by_cases h0 : len0 = 19888
    · have hn : ¬ len1 = 19888 := fun e => h ⟨h0, e⟩
      subst h0
      have h3 : ((len1 : Int) == 19888) = false := by simp; omega
      have h4 : ((len1 : Int) != 19888) = true := by simp; omega
      clear h hn
      go_enter Try.func5, Try.ntmps5
      go_wp2_with fail
      go_ret
      exact ⟨rfl, Below.refl _ _⟩
    · have h3 : ((len0 : Int) == 19888) = false := by simp; omega
      have h4 : ((len0 : Int) != 19888) = true := by simp; omega
      clear h h0
      go_enter Try.func5, Try.ntmps5
      go_wp2_with fail
      go_ret
      exact ⟨rfl, Below.refl _ _⟩

theorem walk (a0 : Option Addr) (len0 cap0 : Nat) (z0 : List Int) (a1 : Option Addr) (len1 cap1 : Nat) (z1 : List Int) (a2 : Bool) (w : World) (w0 : IsRow .u8 w a0 len0 cap0 z0) (w1 : IsRow .u8 w a1 len1 cap1 z1) :
    Calls Try.prog 5 #[.slice a0 len0 cap0, .slice a1 len1 cap1, .bool a2] w fun e w' => e = .returned (.bool true) ∧ Below w.heap.size w w' := by
  by_cases hL : 2147483647 < len0 ∨ 2147483647 < len1
  · exact walk_long a0 len0 cap0 a1 len1 cap1 a2 w w0.len_le w1.len_le hL
  · by_cases hn : len0 = want a2 ∧ len1 = want a2
    · cases a2 with
      | false =>
        simp only [want, Bool.false_eq_true, if_false] at hn
        obtain ⟨rfl, rfl⟩ := hn
        obtain ⟨b1, o1, rfl, hb1, hc1, hd1, hf, hin1⟩ := w0.lies (by omega)
        obtain ⟨b2, o2, rfl, hb2, hc2, hd2, hh, hin2⟩ := w1.lies (by omega)
        exact walk_false b1 o1 cap0 b2 o2 cap1 _ _ w hc1 hd1 hc2 hd2 hb1 hb2 hf hh hin1 hin2
      | true =>
        simp only [want, if_true] at hn
        obtain ⟨rfl, rfl⟩ := hn
        obtain ⟨b1, o1, rfl, hb1, hc1, hd1, hf, hin1⟩ := w0.lies (by omega)
        obtain ⟨b2, o2, rfl, hb2, hc2, hd2, hh, hin2⟩ := w1.lies (by omega)
        exact walk_true b1 o1 cap0 b2 o2 cap1 _ _ w hc1 hd1 hc2 hd2 hb1 hb2 hf hh hin1 hin2
    · exact walk_other a0 len0 cap0 a1 len1 cap1 a2 w (fun h => hL (Or.inl h)) (fun h => hL (Or.inr h)) hn

/-! ### THE ROW's STEP: WRITTEN OUT: LEAVE IT -/
set_option maxRecDepth 100000 in
theorem lifted (os : Os) (started : os.Started) (H : Type) (enc : TypeId × Value → H) :
    ReturnsInHanded {} Try.checked os 5 .any (Rows.fnExactSameSpec.pre6 enc Try.prog Try.f5 Rows.fnExactSameRow.domain false) (Rows.fnExactSameSpec.post enc Try.prog Try.f5 false true false false) := by
  refine returnsInHanded_of_change (C := Try.checked) own started (by kernel_rfl) Try.func5
    (ChangeSpec.witness6 (enc := enc) (C := Try.checked) false ⟨#[], #[.slice none 0 0, .slice none 0 0, .bool false], []⟩ 8 (by kernel_rfl) (by kernel_rfl) (by kernel_rfl) (by kernel_rfl)) ?_
  intro W base args ds gs before hval0 hW hcnd _
  have hval : ∀ (j : Nat) t v, Try.f5.params[j]? = some t → args[j]? = some v → Value.okWide Try.prog W .any base t v := hval0
  have hW' := hW
  obtain ⟨p, q, hA0, hV, rfl, hfz, hnd⟩ := hW
  have hA : DataW.TrodAll enc Try.prog W 0 (fun _ => true) true Try.f5.params.toList args.toList ds p := hA0
  rw [Try.params5] at hA hval
  obtain ⟨v0, vs0, d0, ds0, p0, q0, hargs, rfl, rfl, h0, r0⟩ := trodAll_cons hA
  obtain ⟨v1, vs1, d1, ds1, p1, q1, rfl, rfl, rfl, h1, r1⟩ := trodAll_cons r0
  obtain ⟨v2, vs2, d2, ds2, p2, q2, rfl, rfl, rfl, h2, r2⟩ := trodAll_cons r1
  obtain ⟨rfl, rfl, rfl⟩ := trodAll_nil r2
  obtain rfl : args = #[v0, v1, v2] := by cases args; simp_all
  obtain ⟨rfl, rfl⟩ := trodVars_none hV
  obtain ⟨a0, len0, cap0, rfl⟩ := okWide_slice Try.underlying22 (hval 0 22 v0 rfl rfl)
  have k0 := h0
  have lt0 : ∀ x ∈ p0, x.block < W.heap.size := by obtain ⟨m, hm⟩ := k0; exact DataW.trod_lt m _ _ _ hm
  obtain ⟨z0, w0⟩ : ∃ zs, IsRow .u8 W a0 len0 cap0 zs := by
    obtain ⟨fuel, hf⟩ := h0
    rcases open_ints Try.underlying22 Try.underlying5 (by kernel_rfl) hf with ⟨hcs, _⟩ | ⟨x, l, c, zs, hcs, _, hl, hm, hz, _, hcell, hwz⟩
    · simp [Value.cells] at hcs
      obtain ⟨rfl, rfl, rfl⟩ := hcs
      exact ⟨[], .inl ⟨rfl, rfl, rfl, rfl⟩⟩
    · simp [Value.cells] at hcs
      obtain ⟨rfl, rfl, rfl⟩ := hcs
      exact ⟨zs, .inr ⟨_, rfl, hl, hm, by simpa using hz, hcell, hwz⟩⟩
  obtain ⟨a1, len1, cap1, rfl⟩ := okWide_slice Try.underlying22 (hval 1 22 v1 rfl rfl)
  have k1 := h1
  have lt1 : ∀ x ∈ p1, x.block < W.heap.size := by obtain ⟨m, hm⟩ := k1; exact DataW.trod_lt m _ _ _ hm
  obtain ⟨z1, w1⟩ : ∃ zs, IsRow .u8 W a1 len1 cap1 zs := by
    obtain ⟨fuel, hf⟩ := h1
    rcases open_ints Try.underlying22 Try.underlying5 (by kernel_rfl) hf with ⟨hcs, _⟩ | ⟨x, l, c, zs, hcs, _, hl, hm, hz, _, hcell, hwz⟩
    · simp [Value.cells] at hcs
      obtain ⟨rfl, rfl, rfl⟩ := hcs
      exact ⟨[], .inl ⟨rfl, rfl, rfl, rfl⟩⟩
    · simp [Value.cells] at hcs
      obtain ⟨rfl, rfl, rfl⟩ := hcs
      exact ⟨zs, .inr ⟨_, rfl, hl, hm, by simpa using hz, hcell, hwz⟩⟩
  obtain ⟨a2, rfl, rfl, rfl⟩ := open_bool Try.underlying4 (hval 2 4 v2 rfl rfl) h2
  clear hA0 hval0
  refine (walk a0 len0 cap0 z0 a1 len1 cap1 z1 a2 W w0 w1).mono fun e W' ⟨he, bel⟩ => ?_
  subst he
  exact ⟨_, rfl, _, _, _, [], _, [], hW', trodAll_mk1 (shut_bool Try.underlying4 _), (trodAll_cons_mk (Below.trod laidOut (by kernel_rfl) (of_decide_eq_true (by kernel_rfl)) k0 bel lt0) (trodAll_cons_mk (Below.trod laidOut (by kernel_rfl) (of_decide_eq_true (by kernel_rfl)) k1 bel lt1) (trodAll_cons_mk (shut_bool Try.underlying4 _) trodAll_mk0))), rfl, bel.frame _, fun h => by cases h⟩

theorem over : Rows.fnExactSameRow.holds Try.pinned (OpenSpec.ofChange Rows.fnExactSameSpec) :=
  OpenClaim.holds_of_wide 5 Try.f5 rfl rfl rfl rfl rfl rfl rfl ⟨rfl, rfl, rfl, rfl, rfl⟩ rfl rfl rfl rfl rfl (by kernel_rfl) Try.func5 (by kernel_rfl)
    (of_decide_eq_true (by kernel_rfl)) (by unfold Func.isWrapper; first | (rw [if_pos (by decide +kernel)]; kernel_rfl) | (rw [if_neg (by decide +kernel)]; exact ⟨rfl, rfl⟩))
    (fun os started H enc _ => lifted os started H enc)

/-- ████ THE STATEMENT ████ -/
theorem proved : Rows.FnExactSameSaid := over
#print axioms proved
end Go.Proofs.Ytjmggahedcbjkaa.fnExactSame
