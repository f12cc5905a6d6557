/-
  WALK: PublicKey.Equal of the keys of two rows of 9616 bytes says whether the rows are one; the world is as it was but for the count of draws. Condition: both keys lie in memory as read.
-/
import Derived.Test.YtjmggahedcbjkaaCmp
import Derived.Test.YtjmggahedcbjkaaOf
import Derived.Test.YtjmggahedcbjkaaPkv
namespace Go.Proofs.Ytjmggahedcbjkaa
open Go.RowKit Go.Lib

/-- The numbers of a key's matrix. -/
def mat (f : Nat → Int) : Nat → Int := unp fun j => f (16 + j)

theorem mat_nums {f : Nat → Int} (hf : Bytes f) : Nums (mat f) := Nums.unp fun i => hf (16 + i)
theorem mat_mask {f : Nat → Int} (hf : Bytes f) (k : Nat) : bits BinOp.and .u16 (mat f k) 32767 = mat f k := by
  have b := mat_nums hf k
  rw [and16_15 _ b.1 (by omega)]
  exact Int.emod_eq_of_lt b.1 b.2

theorem eq_no_mat {f g : Nat → Int} {k : Nat} (hk : k < 5120) (h : mat f k ≠ mat g k) : eqUpto f g 9616 = false :=
  decide_eq_false fun H => h (unp_congr (n := 640) (fun j hj => H (16 + j) (by omega)) k hk)
theorem eq_mat {f g : Nat → Int} (hf : Bytes f) (hg : Bytes g) (h : Sofar (mat f) (mat g) 5120) : eqUpto f g 16 = eqUpto f g 9616 := by
  have e : ∀ j, j < 9600 → f (16 + j) = g (16 + j) := unp_inj (n := 640) (fun i => hf (16 + i)) (fun i => hg (16 + i)) h
  unfold eqUpto
  congr 1
  apply propext
  constructor
  · intro H j hj
    by_cases h16 : j < 16
    · exact H j h16
    · have := e (j - 16) (by omega)
      rwa [show 16 + (j - 16) = j by omega] at this
  · exact fun H j hj => H j (by omega)

set_option maxRecDepth 100000 in
set_option maxHeartbeats 1000000 in
theorem pkEq_any (g1 g2 : Nat) (f h : Nat → Int) (t1 t2 : TypeId) (w : World) (hf : Bytes f) (hh : Bytes h) (hp1 : PkAt f g1 t1 w) (hp2 : PkAt h g2 t2 w) :
    Calls Try.prog 16 #[.pointer (some ⟨g1, 0, none⟩), .pointer (some ⟨g2, 0, none⟩)] w fun e w' => e = .returned (.bool (eqUpto f h 9616)) ∧ ∃ q, w' = w.drewN q := by
  have P1 := Lib.hid hp1
  have P2 := Lib.hid hp2
  have HF := Lib.hid hf
  have HH := Lib.hid hh
  clear hp1 hp2 hf hh
  go_enter Try.func16, Try.ntmps16
  go_wp2_with fail
  go_loopg [18] 5120 (fun gh s18 wr => ∃ k q : Nat, k ≤ 5120 ∧ 5120 - k ≤ gh ∧ s18 = .int .i64 k ∧ wr = w.drewN q ∧ Sofar (mat f) (mat h) k)
  case atStart => exact ⟨0, 0, Nat.zero_le _, by omega, rfl, rfl, fun j hj => absurd hj (Nat.not_lt_zero _)⟩
  case round =>
    obtain ⟨k, q, hk, hgh, rfl, rfl, hS⟩ := hrel
    have S := Lib.hid hS
    clear hS
    by_cases hlt : k < 5120
    · have c1 : w.cell? ⟨g1, 16 + k, none⟩ = some (.int .u16 (mat f k)) := P1.out.mat k hlt
      have c2 : w.cell? ⟨g2, 16 + k, none⟩ = some (.int .u16 (mat h k)) := P2.out.mat k hlt
      have m1 := mat_mask HF.out k
      have m2 := mat_mask HH.out k
      obtain ⟨x, ex⟩ : ∃ x, mat f k = x := ⟨_, rfl⟩
      obtain ⟨y, ey⟩ : ∃ y, mat h k = y := ⟨_, rfl⟩
      rw [ex] at c1 m1
      rw [ey] at c2 m2
      have EX := Lib.hid ex
      have EY := Lib.hid ey
      clear ex ey
      by_cases hxy : x = y
      · subst hxy
        go_wp2_with fail
        go_quiet (fail)
        go_wp2
        go_roundg (5120 - (k + 1))
        case measure => omega
        case rel => exact ⟨k + 1, q + nq, by omega, by omega, by go_num, rfl, S.out.succ (EX.out.trans EY.out.symm)⟩
      · go_wp2_with fail
        go_quiet (fail)
        go_wp2
        go_ret
        exact ⟨ret_bool (eq_no_mat hlt (by rw [EX.out, EY.out]; exact hxy)).symm, q + nq, World.drewN_drewN _ _ _⟩
    · have : k = 5120 := by omega
      subst this
      obtain ⟨wq, ewq⟩ : ∃ wq, wq = w.drewN q := ⟨_, rfl⟩
      have hc1 : ∀ j, j < 16 → wq.cell? ⟨g1, 0 + j, none⟩ = some (.int .u8 (f j)) := fun j hj => by rw [Nat.zero_add, ewq]; exact P1.out.seed j hj
      have hc2 : ∀ j, j < 16 → wq.cell? ⟨g2, 0 + j, none⟩ = some (.int .u8 (h j)) := fun j hj => by rw [Nat.zero_add, ewq]; exact P2.out.seed j hj
      rw [← ewq]
      have C1 := Lib.hid hc1
      have C2 := Lib.hid hc2
      have EW := Lib.hid ewq
      clear hc1 hc2 ewq
      go_wp2_with fail
      go_quiet ((go_at_call 22; exact Calls.quiet_of_same (cmp22 g1 0 16 g2 0 16 f h _ HF.out HH.out C1.out C2.out)))
      go_wp2_with fail
      go_ret
      exact ⟨ret_bool (eq_mat HF.out HH.out S.out), _, by rw [EW.out, World.drewN_drewN]⟩

end Go.Proofs.Ytjmggahedcbjkaa
