/-
  WALK: privateOf makes two new blocks that hold the private key of 19888 bytes; nothing that was there has turned. Condition: the bytes' block was there before.
-/
import Derived.Test.YtjmggahedcbjkaaSec
namespace Go.Proofs.Ytjmggahedcbjkaa
open Go.RowKit Go.Lib

set_option maxHeartbeats 400000 in
theorem privateOf_any (b o c : Nat) (f : Nat → Int) (w : World) (hc : 19888 ≤ c) (hc2 : c ≤ 9223372036854775807) (hb : b < w.heap.size) (hf : Bytes f)
    (hin : ∀ i, i < 19888 → w.cell? ⟨b, o + i, none⟩ = some (.int .u8 (f i))) :
    Calls Try.prog 14 #[.slice (some ⟨b, o, none⟩) 19888 c] w fun e w' => e = .returned (.pointer (some ⟨w.heap.size, 0, none⟩)) ∧ SkAt f w.heap.size (w.heap.size + 1) 46 w' ∧ Below w.heap.size w w' ∧ w'.heap.size = w.heap.size + 2 := by
  obtain ⟨Z, hZ, hz⟩ := zero46
  have HIN := Lib.hid hin
  have HF := Lib.hid hf
  have HZ := Lib.hid hz
  clear hin hf hz
  have HC : ∀ i, i < 19888 → (w.alloc (.cells Z 46)).cell? ⟨b, o + i, none⟩ = some (.int .u8 (f i)) := fun i hi => (World.cell?_alloc_lt w _ ⟨b, o + i, none⟩ hb).trans (HIN.out i hi)
  have HCC := Lib.hid HC
  have HS := Lib.hid (show (w.alloc (.cells Z 46)).heap.size = w.heap.size + 1 from World.size_alloc _ _)
  clear HC
  go_enter Try.func14, Try.ntmps14
  go_wp2_with (go_at_call 19; refine (unpackSk_any w.heap.size b o c f Z 46 (w.alloc (.cells Z 46)) hc hc2 (Nat.ne_of_lt hb) (by rw [HS.out]; omega) (by rw [HS.out]; omega) HF.out HCC.out (Row.of_alloc w Z 46) HZ.out).mono ?_; rintro e w' ⟨rfl, P1, B1, Z1⟩)
  rw [HS.out] at P1 B1 Z1
  go_ret
  exact ⟨rfl, P1, ((Below.refl _ _).alloc (Nat.le_refl _) _).trans (B1 _ (Nat.le_refl _) (Nat.le_succ _)), Z1⟩

end Go.Proofs.Ytjmggahedcbjkaa
