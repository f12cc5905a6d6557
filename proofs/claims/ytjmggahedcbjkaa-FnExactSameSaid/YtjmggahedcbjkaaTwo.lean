/-
  WALK: impl.Same of two rows of bytes says whether they are one; nothing that was there has turned. Conditions: 9616 bytes each (not private) or 19888 bytes each (private); their blocks were there before.
-/
import Derived.Test.YtjmggahedcbjkaaSeq
namespace Go.Proofs.Ytjmggahedcbjkaa
open Go.RowKit Go.Lib

theorem SkAt.below {f : Nat → Int} {g N B : Nat} {t : TypeId} {w w' : World} (h : SkAt f g N t w) (hb : Below B w w') (hg : g < B) (hN : N < B) : SkAt f g N t w' := by
  obtain ⟨⟨cs, hr, r⟩, k⟩ := h
  exact ⟨⟨cs, (hb.block g hg).trans hr, r⟩, k.below hb hN⟩

set_option maxHeartbeats 400000 in
theorem same_no (b1 o1 c1 b2 o2 c2 : Nat) (f h : Nat → Int) (w : World) (hc1 : 9616 ≤ c1) (hd1 : c1 ≤ 9223372036854775807) (hc2 : 9616 ≤ c2) (hd2 : c2 ≤ 9223372036854775807) (hb1 : b1 < w.heap.size) (hb2 : b2 < w.heap.size)
    (hf : Bytes f) (hh : Bytes h) (hin1 : ∀ i, i < 9616 → w.cell? ⟨b1, o1 + i, none⟩ = some (.int .u8 (f i))) (hin2 : ∀ i, i < 9616 → w.cell? ⟨b2, o2 + i, none⟩ = some (.int .u8 (h i))) :
    Calls Try.prog 11 #[.slice (some ⟨b1, o1, none⟩) 9616 c1, .slice (some ⟨b2, o2, none⟩) 9616 c2, .bool false] w fun e w' => e = .returned (.bool (eqUpto f h 9616)) ∧ Below w.heap.size w w' := by
  have HF := Lib.hid hf
  have HH := Lib.hid hh
  have I1 := Lib.hid hin1
  have I2 := Lib.hid hin2
  clear hf hh hin1 hin2
  go_enter Try.func11, Try.ntmps11
  go_wp2_with fail
  refine (publicOf_any b1 o1 c1 f w hc1 hd1 hb1 HF.out I1.out).mono ?_
  rintro e w1 ⟨rfl, P1, B1, Z1⟩
  have HP1 := Lib.hid P1
  have HB1 := Lib.hid B1
  have HZ1 := Lib.hid Z1
  clear P1 B1 Z1
  go_wp2_with fail
  refine (publicOf_any b2 o2 c2 h w1 hc2 hd2 (by rw [HZ1.out]; omega) HH.out (fun i hi => (HB1.out.cell (p := ⟨b2, o2 + i, none⟩) hb2).trans (I2.out i hi))).mono ?_
  rintro e w2 ⟨rfl, P2, B2, -⟩
  have HP2 := Lib.hid P2
  have HB2 := Lib.hid B2
  clear P2 B2
  go_wp2_with fail
  refine (pkEq_any w.heap.size w1.heap.size f h 42 42 w2 HF.out HH.out (HP1.out.below HB2.out (by rw [HZ1.out]; omega)) HP2.out).mono ?_
  rintro e w3 ⟨rfl, q, rfl⟩
  go_wp2_with fail
  go_ret
  exact ⟨rfl, below_drewN (HB1.out.trans (HB2.out.mono (by rw [HZ1.out]; omega))) q⟩

set_option maxHeartbeats 400000 in
theorem same_yes (b1 o1 c1 b2 o2 c2 : Nat) (f h : Nat → Int) (w : World) (hc1 : 19888 ≤ c1) (hd1 : c1 ≤ 9223372036854775807) (hc2 : 19888 ≤ c2) (hd2 : c2 ≤ 9223372036854775807) (hb1 : b1 < w.heap.size) (hb2 : b2 < w.heap.size)
    (hf : Bytes f) (hh : Bytes h) (hin1 : ∀ i, i < 19888 → w.cell? ⟨b1, o1 + i, none⟩ = some (.int .u8 (f i))) (hin2 : ∀ i, i < 19888 → w.cell? ⟨b2, o2 + i, none⟩ = some (.int .u8 (h i))) :
    Calls Try.prog 11 #[.slice (some ⟨b1, o1, none⟩) 19888 c1, .slice (some ⟨b2, o2, none⟩) 19888 c2, .bool true] w fun e w' => e = .returned (.bool (eqUpto f h 19888)) ∧ Below w.heap.size w w' := by
  have HF := Lib.hid hf
  have HH := Lib.hid hh
  have I1 := Lib.hid hin1
  have I2 := Lib.hid hin2
  clear hf hh hin1 hin2
  go_enter Try.func11, Try.ntmps11
  go_wp2_with fail
  refine (privateOf_any b1 o1 c1 f w hc1 hd1 hb1 HF.out I1.out).mono ?_
  rintro e w1 ⟨rfl, P1, B1, Z1⟩
  have HP1 := Lib.hid P1
  have HB1 := Lib.hid B1
  have HZ1 := Lib.hid Z1
  clear P1 B1 Z1
  go_wp2_with fail
  refine (privateOf_any b2 o2 c2 h w1 hc2 hd2 (by rw [HZ1.out]; omega) HH.out (fun i hi => (HB1.out.cell (p := ⟨b2, o2 + i, none⟩) hb2).trans (I2.out i hi))).mono ?_
  rintro e w2 ⟨rfl, P2, B2, -⟩
  have HP2 := Lib.hid P2
  have HB2 := Lib.hid B2
  clear P2 B2
  go_wp2_with fail
  refine (skEq_any w.heap.size (w.heap.size + 1) w1.heap.size (w1.heap.size + 1) f h 46 46 w2 HF.out HH.out (HP1.out.below HB2.out (by rw [HZ1.out]; omega) (by rw [HZ1.out]; omega)) HP2.out).mono ?_
  rintro e w3 ⟨rfl, q, rfl⟩
  go_wp2_with fail
  go_ret
  exact ⟨rfl, below_drewN (HB1.out.trans (HB2.out.mono (by rw [HZ1.out]; omega))) q⟩

end Go.Proofs.Ytjmggahedcbjkaa
