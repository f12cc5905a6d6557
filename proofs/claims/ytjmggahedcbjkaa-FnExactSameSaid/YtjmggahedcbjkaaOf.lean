/-
  WALK: publicOf makes a new block that holds the public key of 9616 bytes; nothing that was there has turned. Condition: the bytes' block was there before.
-/
import Derived.Test.YtjmggahedcbjkaaKey
namespace Go.Proofs.Ytjmggahedcbjkaa
open Go.RowKit Go.Lib

def aggSize : Value → Option Nat
  | .agg cs => some cs.size
  | _ => none
theorem zero_of {P : Program} {t : TypeId} {n : Nat} (h : (P.info? t).map (fun i => i.zero.map aggSize) = some (some (some n))) :
    ∃ Z : Array Value, (∀ w, (zeroValue t).run P w = .ok (.agg Z) w) ∧ Z.size = n := by
  obtain ⟨i, hi, h1⟩ := Option.map_eq_some_iff.1 h
  obtain ⟨z, hz, h2⟩ := Option.map_eq_some_iff.1 h1
  cases z with
  | agg cs =>
    simp only [aggSize, Option.some.injEq] at h2
    exact ⟨cs, fun w => by simp [zeroValue, typeInfo, hi, hz], h2⟩
  | _ => simp [aggSize] at h2
theorem zero42 : ∃ Z : Array Value, (∀ w, (zeroValue 42).run Try.prog w = .ok (.agg Z) w) ∧ Z.size = 5136 := zero_of (by kernel_rfl)
theorem zero46 : ∃ Z : Array Value, (∀ w, (zeroValue 46).run Try.prog w = .ok (.agg Z) w) ∧ Z.size = 5153 := zero_of (by kernel_rfl)

set_option maxHeartbeats 400000 in
theorem publicOf_any (b o c : Nat) (f : Nat → Int) (w : World) (hc : 9616 ≤ c) (hc2 : c ≤ 9223372036854775807) (hb : b < w.heap.size) (hf : Bytes f)
    (hin : ∀ i, i < 9616 → w.cell? ⟨b, o + i, none⟩ = some (.int .u8 (f i))) :
    Calls Try.prog 12 #[.slice (some ⟨b, o, none⟩) 9616 c] w fun e w' => e = .returned (.pointer (some ⟨w.heap.size, 0, none⟩)) ∧ PkAt f w.heap.size 42 w' ∧ Below w.heap.size w w' ∧ w'.heap.size = w.heap.size + 1 := by
  obtain ⟨Z, hZ, hz⟩ := zero42
  have HIN := Lib.hid hin
  have HF := Lib.hid hf
  have HZ := Lib.hid hz
  clear hin hf hz
  go_enter Try.func12, Try.ntmps12
  have HC : ∀ i, i < 9616 → (w.alloc (.cells Z 42)).cell? ⟨b, o + i, none⟩ = some (.int .u8 (f i)) := fun i hi => (World.cell?_alloc_lt w _ ⟨b, o + i, none⟩ hb).trans (HIN.out i hi)
  have HCC := Lib.hid HC
  clear HC
  go_wp2_with (go_at_call 17; refine (unpackPk_any w.heap.size b o c f Z 42 (w.alloc (.cells Z 42)) hc hc2 (Nat.ne_of_lt hb) HF.out HCC.out (Row.of_alloc w Z 42) HZ.out).mono ?_; rintro e w' ⟨rfl, P1, O1⟩)
  go_ret
  exact ⟨rfl, P1, ((Below.refl _ _).alloc (Nat.le_refl _) _).trans (O1.below (Nat.le_refl _)), O1.size.trans (World.size_alloc _ _)⟩

end Go.Proofs.Ytjmggahedcbjkaa
