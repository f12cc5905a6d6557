/-
  WALKS: slices.Equal at []int and at []byte says whether the two lists of elements are one. Condition: both of one length, the cells of each known.
-/
import Derived.Test.YtjmggahedcbjkaaRows
import Derived.WalkKit
import Derived.WalkSpells
import Derived.WalkLawsBesides
import Derived.Deep.LoopGhost
import Derived.Deep.Draws
import Derived.Deep.QuietTactic
import Derived.BigQuiet
import Derived.Lib.Hide
namespace Go.Proofs.Ytjmggahedcbjkaa
open Go.RowKit Go.Lib

/-- Whether two rows of numbers are one up to n. -/
def eqUpto (f g : Nat → Int) (n : Nat) : Bool := decide (∀ j, j < n → f j = g j)
theorem eqUpto_no {f g : Nat → Int} {n : Nat} (k : Nat) (hk : k < n) (h : f k ≠ g k) : eqUpto f g n = false := by
  unfold eqUpto; exact decide_eq_false fun H => h (H k hk)
theorem eqUpto_yes {f g : Nat → Int} {n : Nat} (h : ∀ j, j < n → f j = g j) : eqUpto f g n = true := decide_eq_true h
theorem ret_bool {a b : Bool} (h : a = b) : Ending.returned (.bool a) = .returned (.bool b) := by rw [h]
/-- .. known so far. -/
def Sofar (f g : Nat → Int) (k : Nat) : Prop := ∀ j, j < k → f j = g j
theorem Sofar.succ {f g : Nat → Int} {k : Nat} (h : Sofar f g k) (e : f k = g k) : Sofar f g (k + 1) := fun j hj => by
  by_cases hjk : j = k
  · subst hjk; exact e
  · exact h j (by omega)

set_option maxHeartbeats 1000000 in
theorem eq6_any (n b1 o1 c b2 o2 d : Nat) (f g : Nat → Int) (w : World) (hbig : n ≤ 9223372036854775807)
    (hc1 : ∀ j, j < n → w.cell? ⟨b1, o1 + j, none⟩ = some (.int .i64 (f j))) (hc2 : ∀ j, j < n → w.cell? ⟨b2, o2 + j, none⟩ = some (.int .i64 (g j))) :
    Calls Try.prog 6 #[.slice (some ⟨b1, o1, none⟩) n c, .slice (some ⟨b2, o2, none⟩) n d] w fun e w' => e = .returned (.bool (eqUpto f g n)) ∧ ∃ q, w' = w.drewN q := by
  go_enter Try.func6, Try.ntmps6
  go_wp2
  go_loopg [13] n (fun gh s13 wr => ∃ k q : Nat, k ≤ n ∧ n - k ≤ gh ∧ s13 = .int .i64 k ∧ wr = w.drewN q ∧ Sofar f g k)
  case atStart => exact ⟨0, 0, Nat.zero_le _, by omega, rfl, rfl, fun j hj => absurd hj (Nat.not_lt_zero _)⟩
  case round =>
    obtain ⟨k, q, hk, hg, rfl, rfl, heq⟩ := hrel
    by_cases hlt : k < n
    · have g1 : w.cell? ⟨b1, o1 + k, none⟩ = some (.int .i64 (f k)) := hc1 k hlt
      have g2 : w.cell? ⟨b2, o2 + k, none⟩ = some (.int .i64 (g k)) := hc2 k hlt
      clear hc1 hc2
      have A := Lib.hid heq
      clear heq
      generalize hxk : f k = x at g1
      generalize hyk : g k = y at g2
      have B := Lib.hid (And.intro hxk hyk)
      clear hxk hyk
      by_cases hxy : x = y
      · subst hxy
        go_wp2_with fail
        go_quiet (fail)
        go_wp2
        go_roundg (n - (k + 1))
        case measure => omega
        case rel => exact ⟨k + 1, q + nq, by omega, by omega, by go_num, rfl, A.out.succ (B.out.1.trans B.out.2.symm)⟩
      · go_wp2_with fail
        go_quiet (fail)
        go_wp2
        go_ret
        exact ⟨ret_bool (eqUpto_no k hlt (by rw [B.out.1, B.out.2]; exact hxy)).symm, q + nq, World.drewN_drewN _ _ _⟩
    · have : k = n := by omega
      subst this
      clear hc1 hc2
      have A := Lib.hid heq
      clear heq
      go_wp2
      go_ret
      exact ⟨ret_bool (eqUpto_yes A.out).symm, q, rfl⟩

set_option maxHeartbeats 1000000 in
theorem eq9_any (n b1 o1 c b2 o2 d : Nat) (f g : Nat → Int) (w : World) (hbig : n ≤ 9223372036854775807)
    (hc1 : ∀ j, j < n → w.cell? ⟨b1, o1 + j, none⟩ = some (.int .u8 (f j))) (hc2 : ∀ j, j < n → w.cell? ⟨b2, o2 + j, none⟩ = some (.int .u8 (g j))) :
    Calls Try.prog 9 #[.slice (some ⟨b1, o1, none⟩) n c, .slice (some ⟨b2, o2, none⟩) n d] w fun e w' => e = .returned (.bool (eqUpto f g n)) ∧ ∃ q, w' = w.drewN q := by
  go_enter Try.func9, Try.ntmps9
  go_wp2
  go_loopg [13] n (fun gh s13 wr => ∃ k q : Nat, k ≤ n ∧ n - k ≤ gh ∧ s13 = .int .i64 k ∧ wr = w.drewN q ∧ Sofar f g k)
  case atStart => exact ⟨0, 0, Nat.zero_le _, by omega, rfl, rfl, fun j hj => absurd hj (Nat.not_lt_zero _)⟩
  case round =>
    obtain ⟨k, q, hk, hg, rfl, rfl, heq⟩ := hrel
    by_cases hlt : k < n
    · have g1 : w.cell? ⟨b1, o1 + k, none⟩ = some (.int .u8 (f k)) := hc1 k hlt
      have g2 : w.cell? ⟨b2, o2 + k, none⟩ = some (.int .u8 (g k)) := hc2 k hlt
      clear hc1 hc2
      have A := Lib.hid heq
      clear heq
      generalize hxk : f k = x at g1
      generalize hyk : g k = y at g2
      have B := Lib.hid (And.intro hxk hyk)
      clear hxk hyk
      by_cases hxy : x = y
      · subst hxy
        go_wp2_with fail
        go_quiet (fail)
        go_wp2
        go_roundg (n - (k + 1))
        case measure => omega
        case rel => exact ⟨k + 1, q + nq, by omega, by omega, by go_num, rfl, A.out.succ (B.out.1.trans B.out.2.symm)⟩
      · go_wp2_with fail
        go_quiet (fail)
        go_wp2
        go_ret
        exact ⟨ret_bool (eqUpto_no k hlt (by rw [B.out.1, B.out.2]; exact hxy)).symm, q + nq, World.drewN_drewN _ _ _⟩
    · have : k = n := by omega
      subst this
      clear hc1 hc2
      have A := Lib.hid heq
      clear heq
      go_wp2
      go_ret
      exact ⟨ret_bool (eqUpto_yes A.out).symm, q, rfl⟩

end Go.Proofs.Ytjmggahedcbjkaa
