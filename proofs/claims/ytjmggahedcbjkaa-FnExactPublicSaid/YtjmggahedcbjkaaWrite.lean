/-
  WALK: PublicKey.Pack writes the 9616 bytes of a public key into a row of 9616 bytes; all else is as it was. Condition: the row is another block than the key.
-/
import Derived.Test.YtjmggahedcbjkaaOf
import Derived.Test.YtjmggahedcbjkaaPack
namespace Go.Proofs.Ytjmggahedcbjkaa
open Go.RowKit Go.Lib

theorem bytes_of_filled {f : Nat → Int} (hf : Bytes f) {h : Nat} {t : TypeId} {w w1 w2 : World} {cs0 cs1 : Array Value} (h1 : Filled w h cs0 t 0 (val8 f) 16 w1) (hr : Row w1 h cs1 t)
    (h2 : Filled w1 h cs1 t 16 (byte8 (unp fun j => f (16 + j))) 9600 w2) : (∀ i, i < 9616 → w2.cell? ⟨h, i, none⟩ = some (.int .u8 (f i))) ∧ Only h w w2 := by
  obtain ⟨cs1', hr1, ho1, hz1, ha1, _⟩ := h1
  obtain rfl : cs1' = cs1 := by
    have := hr1.symm.trans hr
    simpa using this
  obtain ⟨cs2, hr2, ho2, hz2, ha2, hb2⟩ := h2
  refine ⟨fun i hi => ?_, ho1.trans ho2⟩
  rw [hr2.cell]
  by_cases hlt : i < 16
  · rw [hb2 i (Or.inl hlt)]
    have := ha1 i hlt
    rwa [Nat.zero_add] at this
  · have := ha2 (i - 16) (by omega)
    rw [show 16 + (i - 16) = i by omega] at this
    rw [this, byte8, pk_unp _ (fun j => hf (16 + j))]
    show some (Value.int .u8 (f (16 + (i - 16)))) = _
    rw [show 16 + (i - 16) = i by omega]

set_option maxRecDepth 100000 in
set_option maxHeartbeats 1000000 in
theorem packPk_any (g h : Nat) (f : Nat → Int) (cs0 : Array Value) (t t2 : TypeId) (w : World) (hne : g ≠ h) (hf : Bytes f)
    (hp : PkAt f g t w) (hr : Row w h cs0 t2) (hsz : cs0.size = 9616) :
    Calls Try.prog 13 #[.pointer (some ⟨g, 0, none⟩), .slice (some ⟨h, 0, none⟩) 9616 9616] w fun e w' => e = .returned (.tuple #[]) ∧ (∀ i, i < 9616 → w'.cell? ⟨h, i, none⟩ = some (.int .u8 (f i))) ∧ Only h w w' := by
  have HR := Lib.hid hr
  have HP := Lib.hid hp
  have HSZ := Lib.hid hsz
  have HF := Lib.hid hf
  have HNE := Lib.hid hne
  clear hr hp hsz hf hne
  go_enter Try.func13, Try.ntmps13
  go_wp2_with fail
  go_still_tail 6, (by kernel_rfl)
  change wpList _ _ _ _ _ w.drew
  refine wpList_copy_only rfl (.tmp 9) (.tmp 13) 22 22 rfl 5 Try.underlying22 size5 h 0 16 9616 g 0 16 16 rfl rfl cs0 t2 HR.out 16 (val8 f) (by decide) (fun _ => rfl) (fun j hj => by rw [Nat.zero_add]; exact HP.out.seed j hj) (by rw [HSZ.out]; omega) ?_
  intro w1 F1
  have G1 := Lib.hid F1
  clear F1
  go_wp2_with fail
  go_still_tail 6, (by kernel_rfl)
  change wpList _ _ _ _ _ w1.drew
  obtain ⟨cs1, hr1, hz1, -, -⟩ := G1.out.row
  have hin1 : ∀ i, i < 5120 → w1.drew.cell? ⟨g, 16 + i, none⟩ = some (.int .u16 (unp (fun j => f (16 + j)) i)) := fun i hi =>
    (G1.out.only.cell g (16 + i) HNE.out).trans (HP.out.mat i hi)
  have HR1 := Lib.hid hr1
  have HZ1 := Lib.hid hz1
  have HIN1 := Lib.hid hin1
  clear hr1 hz1 hin1
  go_wp2_with (go_at_call 18; refine (pack_any h 16 9600 g 16 5120 (unp fun j => f (16 + j)) cs1 t2 _ HNE.out (Nums.unp fun i => HF.out (16 + i)) HIN1.out HR1.out (by rw [HZ1.out, HSZ.out]; decide)).mono ?_; rintro e w' ⟨rfl, F2⟩)
  go_end0
  have K := bytes_of_filled HF.out G1.out.pre HR1.out F2.pre
  exact ⟨rfl, K.1, K.2⟩

end Go.Proofs.Ytjmggahedcbjkaa
