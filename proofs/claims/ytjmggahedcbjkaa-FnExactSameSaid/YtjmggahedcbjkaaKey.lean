/-
  WALK: PublicKey.Unpack reads 9616 bytes into a public key's block that is known whole; all else is as it was. Condition: the bytes lie in another block.
-/
import Derived.Test.YtjmggahedcbjkaaUnp
import Derived.StillTailTactics
namespace Go.Proofs.Ytjmggahedcbjkaa
open Go.RowKit Go.Lib

theorem size5 : (Try.prog.info? 5).map (·.size) = some 1 := by kernel_rfl

/-- A byte of a row, as a value. -/
def val8 (f : Nat → Int) (i : Nat) : Value := .int .u8 (f i)

/-- Block g holds the public key of the bytes f. -/
def PkAt (f : Nat → Int) (g : Nat) (t : TypeId) (w : World) : Prop :=
  ∃ cs, Row w g cs t ∧ cs.size = 5136 ∧ (∀ i, i < 16 → cs[i]? = some (.int .u8 (f i))) ∧ (∀ i, i < 5120 → cs[16 + i]? = some (.int .u16 (unp (fun j => f (16 + j)) i)))

theorem PkAt.seed {f : Nat → Int} {g : Nat} {t : TypeId} {w : World} (h : PkAt f g t w) (i : Nat) (hi : i < 16) : w.cell? ⟨g, i, none⟩ = some (.int .u8 (f i)) := by
  obtain ⟨cs, hr, _, h1, _⟩ := h
  rw [hr.cell, h1 i hi]
theorem PkAt.mat {f : Nat → Int} {g : Nat} {t : TypeId} {w : World} (h : PkAt f g t w) (i : Nat) (hi : i < 5120) : w.cell? ⟨g, 16 + i, none⟩ = some (.int .u16 (unp (fun j => f (16 + j)) i)) := by
  obtain ⟨cs, hr, _, _, h1⟩ := h
  rw [hr.cell, h1 i hi]
theorem PkAt.kept {f : Nat → Int} {g g' : Nat} {t : TypeId} {w w' : World} (h : PkAt f g t w) (ho : Only g' w w') (hne : g ≠ g') : PkAt f g t w' := by
  obtain ⟨cs, hr, r⟩ := h
  exact ⟨cs, ho.row hne hr, r⟩
theorem PkAt.below {f : Nat → Int} {g B : Nat} {t : TypeId} {w w' : World} (h : PkAt f g t w) (hb : Below B w w') (hg : g < B) : PkAt f g t w' := by
  obtain ⟨cs, hr, r⟩ := h
  exact ⟨cs, (hb.block g hg).trans hr, r⟩

theorem Filled.pre {w0 w : World} {g : Nat} {cs0 : Array Value} {t : TypeId} {o : Nat} {F : Nat → Value} {n : Nat} (h : Filled w0.drew g cs0 t o F n w) : Filled w0 g cs0 t o F n w := by
  obtain ⟨cs, hr, ho, r⟩ := h
  exact ⟨cs, hr, (Only.drew _ _).trans ho, r⟩

theorem pk_of_filled {f : Nat → Int} {g : Nat} {t : TypeId} {w w1 w2 : World} {cs0 cs1 : Array Value} (hz : cs0.size = 5136) (h1 : Filled w g cs0 t 0 (val8 f) 16 w1) (hr : Row w1 g cs1 t)
    (h2 : Filled w1 g cs1 t 16 (num16 fun j => f (16 + j)) 5120 w2) : PkAt f g t w2 ∧ Only g w w2 := by
  obtain ⟨cs1', hr1, ho1, hz1, ha1, _⟩ := h1
  obtain rfl : cs1' = cs1 := by
    have := hr1.symm.trans hr
    simpa using this
  obtain ⟨cs2, hr2, ho2, hz2, ha2, hb2⟩ := h2
  refine ⟨⟨cs2, hr2, by omega, fun i hi => ?_, fun i hi => ha2 i hi⟩, ho1.trans ho2⟩
  rw [hb2 i (Or.inl hi)]
  have := ha1 i hi
  rwa [Nat.zero_add] at this

set_option maxRecDepth 100000 in
set_option maxHeartbeats 1000000 in
theorem unpackPk_any (g b o c : Nat) (f : Nat → Int) (cs0 : Array Value) (t : TypeId) (w : World) (hc : 9616 ≤ c) (hc2 : c ≤ 9223372036854775807) (hne : b ≠ g) (hf : Bytes f)
    (hin : ∀ i, i < 9616 → w.cell? ⟨b, o + i, none⟩ = some (.int .u8 (f i))) (hr : Row w g cs0 t) (hsz : cs0.size = 5136) :
    Calls Try.prog 17 #[.pointer (some ⟨g, 0, none⟩), .slice (some ⟨b, o, none⟩) 9616 c] w fun e w' => e = .returned (.tuple #[]) ∧ PkAt f g t w' ∧ Only g w w' := by
  have h1 : (16 : Int) ≤ (c : Int) := by omega
  have h2 : ¬ c = 0 := by omega
  have h3 : ¬ c = 16 := by omega
  have HR := Lib.hid hr
  have HIN := Lib.hid hin
  have HSZ := Lib.hid hsz
  have HF := Lib.hid hf
  have HNE := Lib.hid hne
  clear hr hin hsz hf hne
  go_enter Try.func17, Try.ntmps17
  go_wp2_with fail
  go_still_tail 6, (by kernel_rfl)
  change wpList _ _ _ _ _ w.drew
  refine wpList_copy_only rfl (.tmp 11) (.tmp 13) 22 22 rfl 5 Try.underlying22 size5 g 0 16 16 b o 16 c rfl rfl cs0 t HR.out 16 (val8 f) (by decide) (fun _ => rfl) (fun j hj => HIN.out j (by omega)) (by rw [HSZ.out]; omega) ?_
  intro w1 F1
  have G1 := Lib.hid F1
  clear F1
  go_wp2_with fail
  go_still_tail 6, (by kernel_rfl)
  change wpList _ _ _ _ _ w1.drew
  obtain ⟨cs1, hr1, hz1, -, -⟩ := G1.out.row
  have hin1 : ∀ i, i < 9600 → w1.drew.cell? ⟨b, o + 16 + i, none⟩ = some (.int .u8 (f (16 + i))) := fun i hi => by
    have := (G1.out.only.cell b (o + (16 + i)) HNE.out).trans (HIN.out (16 + i) (by omega))
    rwa [← Nat.add_assoc] at this
  have HR1 := Lib.hid hr1
  have HZ1 := Lib.hid hz1
  have HIN1 := Lib.hid hin1
  clear hr1 hz1 hin1
  go_wp2_with (go_at_call 23; refine (unpack_any g 16 5120 b (o + 16) (c - 16) (fun j => f (16 + j)) cs1 t _ HNE.out (fun i => HF.out (16 + i)) HIN1.out HR1.out (by rw [HZ1.out, HSZ.out]; decide)).mono ?_; rintro e w' ⟨rfl, F2⟩)
  go_end0
  have K := pk_of_filled HSZ.out G1.out.pre HR1.out F2.pre
  exact ⟨rfl, K.1, K.2⟩

end Go.Proofs.Ytjmggahedcbjkaa
