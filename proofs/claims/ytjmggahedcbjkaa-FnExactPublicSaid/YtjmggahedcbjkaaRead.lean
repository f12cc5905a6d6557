/-
  WALK: impl.Public gives a new row that holds the 9616 bytes that it was given; nothing that was there has turned. Condition: the bytes' block was there before.
-/
import Derived.Test.YtjmggahedcbjkaaWrite
namespace Go.Proofs.Ytjmggahedcbjkaa
open Go.RowKit Go.Lib

theorem info5 : (Try.prog.info? 5).map (fun i => (i.zero, i.size, i.bytes)) = some (some (.int .u8 0), 1, 1) := by kernel_rfl

theorem make_9616 : ∃ M : Array Value, (∀ w, (Instr.makeSlice 22 (.int .i64 9616) (.int .i64 9616)).run Try.prog w = .ok (.slice (some ⟨w.heap.size, 0, none⟩) 9616 9616) (w.alloc (.cells M 5))) ∧ M.size = 9616 := by
  obtain ⟨i, hi, h0, h1, h2⟩ := info_parts info5
  refine ⟨madeCells #[.int .u8 0] (9616 * 1), fun w => ?_, size_madeCells _ _⟩
  have := run_make (P := Try.prog) w 22 5 i (.int .u8 0) Try.underlying22 hi h0 .i64 .i64 9616 9616 (by omega) (by omega) (by rw [h2]; omega) (by omega)
  rw [h1] at this
  exact this

set_option maxHeartbeats 400000 in
theorem public_any (b o c : Nat) (f : Nat → Int) (w : World) (hc : 9616 ≤ c) (hc2 : c ≤ 9223372036854775807) (hb : b < w.heap.size) (hf : Bytes f)
    (hin : ∀ i, i < 9616 → w.cell? ⟨b, o + i, none⟩ = some (.int .u8 (f i))) :
    Calls Try.prog 10 #[.slice (some ⟨b, o, none⟩) 9616 c] w fun e w' => e = .returned (.slice (some ⟨w.heap.size, 0, none⟩) 9616 9616) ∧ (∀ i, i < 9616 → w'.cell? ⟨w.heap.size, i, none⟩ = some (.int .u8 (f i))) ∧ Below w.heap.size w w' := by
  obtain ⟨M, hM, hz⟩ := make_9616
  have HF := Lib.hid hf
  have HZ := Lib.hid hz
  have HC : ∀ i, i < 9616 → (w.alloc (.cells M 5)).cell? ⟨b, o + i, none⟩ = some (.int .u8 (f i)) := fun i hi => (World.cell?_alloc_lt w _ ⟨b, o + i, none⟩ hb).trans (hin i hi)
  have HCC := Lib.hid HC
  have hsz : (w.alloc (.cells M 5)).heap.size = w.heap.size + 1 := World.size_alloc _ _
  have HS := Lib.hid hsz
  clear hf hz HC hin hsz
  go_enter Try.func10, Try.ntmps10
  go_wp2_with (go_at_call 12; refine (publicOf_any b o c f (w.alloc (.cells M 5)) hc hc2 (by rw [HS.out]; omega) HF.out HCC.out).mono ?_; rintro e w' ⟨rfl, P1, B1, Z1⟩)
  rw [HS.out] at P1 B1
  have R1 : Row w' w.heap.size M 5 := (B1.block w.heap.size (Nat.lt_succ_self _)).trans (Row.of_alloc w M 5)
  have HP1 := Lib.hid P1
  have HB1 := Lib.hid B1
  have HR1 := Lib.hid R1
  clear P1 B1 R1 Z1
  go_wp2_with (go_at_call 13; refine (packPk_any (w.heap.size + 1) w.heap.size f M 42 5 _ (by omega) HF.out HP1.out HR1.out HZ.out).mono ?_; rintro e w'' ⟨rfl, C2, O2⟩)
  go_ret
  exact ⟨rfl, C2, (((Below.refl _ _).alloc (Nat.le_refl _) _).trans (HB1.out.mono (Nat.le_succ _))).trans (O2.below (Nat.le_refl _))⟩

end Go.Proofs.Ytjmggahedcbjkaa
