/-
  For every input the law FnExactSizes returns true (the program's six sizes are those of the reference) and its argument reads as before. Conditions: none beyond the given row's.
  The frame round the walk was written by the kit's proof-skeleton.mjs; the walk is this session's.
-/
import Derived.Test.YtjmggahedcbjkaaRows
import Derived.WalkKit
import Derived.ProofKit
import Derived.OpenShut
import Derived.ShutString
import Derived.ChangeOld
import Derived.Below
import Derived.Test.YtjmggahedcbjkaaEq
namespace Go.Proofs.Ytjmggahedcbjkaa.fnExactSizes
open Go.ChangeShapes Go.WideShapes Go.ChangeAt Go.RowKit
open Go.ChangeMaps (open_string shut_string)
set_option linter.unusedVariables false

theorem own : ownKnob Try.prog.godebug = none := by kernel_rfl
theorem laidOut : laidOutB Try.prog = true := by kernel_rfl

/-- WHAT THE WALK IS TOLD OF A SLICE OF INTEGERS THAT CAME IN: it is nil; or it leads to a row of 'cap' cells, the numbers 'zs' (the first 'len' are its elements, the rest its spare room), each fitting its kind. -/
def IsRow (k : IntKind) (w : World) (a : Option Addr) (len cap : Nat) (zs : List Int) : Prop :=
  (a = none ∧ len = 0 ∧ cap = 0 ∧ zs = []) ∨
  ∃ x, a = some x ∧ len ≤ cap ∧ cap ≤ maxLen ∧ zs.length = cap ∧ (∀ i, i < zs.length → w.cell? (x.add i) = some (.int k (zs.getD i 0))) ∧ ∀ n ∈ zs, (Lit.int k n).wf = true

/-! ### STEP 1: THE WALK: the Go text returns true, AND WRITES NOTHING THAT WAS THERE: 'Below w.heap.size w w'' (Derived/Below.lean: '.refl', '.alloc', '.drew', '.setCell' at a new block, '.trans'). Open each 'IsRow' by 'rcases' AHEAD of 'go_enter'; part every test ahead of the walk. -/
/-- The six sizes, as numbers of a place. -/
def six (j : Nat) : Int := ([48, 16, 16, 9720, 9616, 19888] : List Int).getD j 0
def sixRow : Obj := .cells #[.int .i64 48, .int .i64 16, .int .i64 16, .int .i64 9720, .int .i64 9616, .int .i64 19888] 3
theorem sixRow_cell (j : Nat) (hj : j < 6) : (#[Value.int .i64 48, .int .i64 16, .int .i64 16, .int .i64 9720, .int .i64 9616, .int .i64 19888] : Array Value)[j]? = some (.int .i64 (six j)) := by
  rcases j with _ | _ | _ | _ | _ | _ | j
  all_goals first | rfl | omega
theorem eq_six (w : World) : Calls Try.prog 6 #[.slice (some ⟨w.heap.size, 0, none⟩) 6 6, .slice (some ⟨w.heap.size + 1, 0, none⟩) 6 6] ((w.alloc sixRow).alloc sixRow)
    fun e w' => e = .returned (.bool true) ∧ ∃ q, w' = ((w.alloc sixRow).alloc sixRow).drewN q := by
  refine (eq6_any 6 w.heap.size 0 6 (w.heap.size + 1) 0 6 six six _ (by omega) (fun j hj => ?_) (fun j hj => ?_)).mono ?_
  · unfold sixRow
    rw [World.cell?_alloc2_first, Nat.zero_add]
    exact sixRow_cell j hj
  · unfold sixRow
    rw [World.cell?_alloc2_new, Nat.zero_add]
    exact sixRow_cell j hj
  · rintro e w' ⟨rfl, h⟩
    exact ⟨ret_bool (eqUpto_yes fun _ _ => rfl), h⟩

theorem walk (a0 : Option Addr) (len0 cap0 : Nat) (z0 : List Int) (w : World) (w0 : IsRow .u8 w a0 len0 cap0 z0) :
    Calls Try.prog 3 #[.slice a0 len0 cap0] w fun e w' => e = .returned (.bool true) ∧ Below w.heap.size w w' := by
  have hl : len0 ≤ maxLen := by
    rcases w0 with ⟨_, rfl, _, _⟩ | ⟨_, _, h1, h2, _⟩
    · exact Nat.zero_le _
    · exact Nat.le_trans h1 h2
  clear w0
  unfold maxLen at hl
  by_cases h1 : (2147483647 : Int) < (len0 : Int)
  · go_enter Try.func3, Try.ntmps3
    go_wp2
    go_ret
    exact ⟨rfl, Below.refl _ _⟩
  · by_cases h2 : (4096 : Int) < (len0 : Int)
    · go_enter Try.func3, Try.ntmps3
      go_wp2
      go_ret
      exact ⟨rfl, Below.refl _ _⟩
    · go_enter Try.func3, Try.ntmps3
      go_wp2_with (first | (go_at_call 6; refine (eq_six w).mono ?_; rintro e w' ⟨rfl, q, rfl⟩) | go_in)
      go_ret
      exact ⟨rfl, below_drewN (((Below.refl _ _).alloc (Nat.le_refl _) _).alloc (by simp) _) _⟩

/-! ### THE ROW's STEP: WRITTEN OUT: LEAVE IT -/
set_option maxRecDepth 100000 in
theorem lifted (os : Os) (started : os.Started) (H : Type) (enc : TypeId × Value → H) :
    ReturnsInHanded {} Try.checked os 3 .any (Rows.fnExactSizesSpec.pre6 enc Try.prog Try.f3 Rows.fnExactSizesRow.domain false) (Rows.fnExactSizesSpec.post enc Try.prog Try.f3 false true false false) := by
  refine returnsInHanded_of_change (C := Try.checked) own started (by kernel_rfl) Try.func3
    (ChangeSpec.witness6 (enc := enc) (C := Try.checked) false ⟨#[], #[.slice none 0 0], []⟩ 8 (by kernel_rfl) (by kernel_rfl) (by kernel_rfl) (by kernel_rfl)) ?_
  intro W base args ds gs before hval0 hW hcnd _
  have hval : ∀ (j : Nat) t v, Try.f3.params[j]? = some t → args[j]? = some v → Value.okWide Try.prog W .any base t v := hval0
  have hW' := hW
  obtain ⟨p, q, hA0, hV, rfl, hfz, hnd⟩ := hW
  have hA : DataW.TrodAll enc Try.prog W 0 (fun _ => true) true Try.f3.params.toList args.toList ds p := hA0
  rw [Try.params3] at hA hval
  obtain ⟨v0, vs0, d0, ds0, p0, q0, hargs, rfl, rfl, h0, r0⟩ := trodAll_cons hA
  obtain ⟨rfl, rfl, rfl⟩ := trodAll_nil r0
  obtain rfl : args = #[v0] := by cases args; simp_all
  obtain ⟨rfl, rfl⟩ := trodVars_none hV
  obtain ⟨a0, len0, cap0, rfl⟩ := okWide_slice Try.underlying22 (hval 0 22 v0 rfl rfl)
  have k0 := h0
  have lt0 : ∀ x ∈ p0, x.block < W.heap.size := by obtain ⟨m, hm⟩ := k0; exact DataW.trod_lt m _ _ _ hm
  obtain ⟨z0, w0⟩ : ∃ zs, IsRow .u8 W a0 len0 cap0 zs := by
    obtain ⟨fuel, hf⟩ := h0
    rcases open_ints Try.underlying22 Try.underlying5 (by kernel_rfl) hf with ⟨hcs, _⟩ | ⟨x, l, c, zs, hcs, _, hl, hm, hz, _, hcell, hwz⟩
    · simp [Value.cells] at hcs
      obtain ⟨rfl, rfl, rfl⟩ := hcs
      exact ⟨[], .inl ⟨rfl, rfl, rfl, rfl⟩⟩
    · simp [Value.cells] at hcs
      obtain ⟨rfl, rfl, rfl⟩ := hcs
      exact ⟨zs, .inr ⟨_, rfl, hl, hm, by simpa using hz, hcell, hwz⟩⟩
  clear hA0 hval0
  refine (walk a0 len0 cap0 z0 W w0).mono fun e W' ⟨he, bel⟩ => ?_
  subst he
  exact ⟨_, rfl, _, _, _, [], _, [], hW', trodAll_mk1 (shut_bool Try.underlying4 _), (trodAll_cons_mk (Below.trod laidOut (by kernel_rfl) (of_decide_eq_true (by kernel_rfl)) k0 bel lt0) trodAll_mk0), rfl, bel.frame _, fun h => by cases h⟩

theorem over : Rows.fnExactSizesRow.holds Try.pinned (OpenSpec.ofChange Rows.fnExactSizesSpec) :=
  OpenClaim.holds_of_wide 3 Try.f3 rfl rfl rfl rfl rfl rfl rfl ⟨rfl, rfl, rfl, rfl, rfl⟩ rfl rfl rfl rfl rfl (by kernel_rfl) Try.func3 (by kernel_rfl)
    (of_decide_eq_true (by kernel_rfl)) (by unfold Func.isWrapper; first | (rw [if_pos (by decide +kernel)]; kernel_rfl) | (rw [if_neg (by decide +kernel)]; exact ⟨rfl, rfl⟩))
    (fun os started H enc _ => lifted os started H enc)

/-- ████ THE STATEMENT ████ -/
theorem proved : Rows.FnExactSizesSaid := over
#print axioms proved
end Go.Proofs.Ytjmggahedcbjkaa.fnExactSizes
