/-
  WALK: unpack reads 9600 bytes and writes 5120 numbers of 15 bits into a block that is known whole; all else is as it was. Conditions: the bytes lie in another block; the place is within the block.
-/
import Derived.Test.YtjmggahedcbjkaaEq
import Derived.Test.YtjmggahedcbjkaaMem
import Derived.Test.YtjmggahedcbjkaaVal
namespace Go.Proofs.Ytjmggahedcbjkaa
open Go.RowKit Go.Lib

theorem byteAt {w wr : World} {g b o n : Nat} {f : Nat → Int} (hf : Bytes f) (hne : b ≠ g) (ho : Only g w wr) (hin : ∀ i, i < n → w.cell? ⟨b, o + i, none⟩ = some (.int .u8 (f i))) (j : Nat) (hj : j < n) :
    ∃ x, x = f j ∧ 0 ≤ x ∧ x ≤ 255 ∧ wr.cell? ⟨b, o + j, none⟩ = some (.int .u8 x) :=
  ⟨f j, rfl, (hf j).1, (hf j).2, (ho.cell b (o + j) hne).trans (hin j hj)⟩

def num16 (f : Nat → Int) (i : Nat) : Value := .int .u16 (unp f i)

theorem unp_step {w wr : World} {g : Nat} {cs0 : Array Value} {t : TypeId} {o : Nat} {f : Nat → Int} {k : Nat} (H : Filled w g cs0 t o (num16 f) (8 * k) wr) (hs : o + 8 * k + 8 ≤ cs0.size)
    {y0 y1 y2 y3 y4 y5 y6 y7 : Int} (e0 : y0 = unp f (8 * k)) (e1 : y1 = unp f (8 * k + 1)) (e2 : y2 = unp f (8 * k + 2)) (e3 : y3 = unp f (8 * k + 3)) (e4 : y4 = unp f (8 * k + 4)) (e5 : y5 = unp f (8 * k + 5)) (e6 : y6 = unp f (8 * k + 6)) (e7 : y7 = unp f (8 * k + 7)) :
    Filled w g cs0 t o (num16 f) (8 * k + 8) ((((((((wr.setCell ⟨g, o + 8 * k, none⟩ (.int .u16 y0)).setCell ⟨g, o + (8 * k + 1), none⟩ (.int .u16 y1)).setCell ⟨g, o + (8 * k + 2), none⟩ (.int .u16 y2)).setCell ⟨g, o + (8 * k + 3), none⟩ (.int .u16 y3)).setCell ⟨g, o + (8 * k + 4), none⟩ (.int .u16 y4)).setCell ⟨g, o + (8 * k + 5), none⟩ (.int .u16 y5)).setCell ⟨g, o + (8 * k + 6), none⟩ (.int .u16 y6)).setCell ⟨g, o + (8 * k + 7), none⟩ (.int .u16 y7)) := by
  exact ((((((((H.store (by omega) (v := .int .u16 y0) (by rw [e0]; rfl)).store (by omega) (v := .int .u16 y1) (by rw [e1]; rfl)).store (by omega) (v := .int .u16 y2) (by rw [e2]; rfl)).store (by omega) (v := .int .u16 y3) (by rw [e3]; rfl)).store (by omega) (v := .int .u16 y4) (by rw [e4]; rfl)).store (by omega) (v := .int .u16 y5) (by rw [e5]; rfl)).store (by omega) (v := .int .u16 y6) (by rw [e6]; rfl)).store (by omega) (v := .int .u16 y7) (by rw [e7]; rfl))

set_option maxRecDepth 100000 in
set_option maxHeartbeats 4000000 in
theorem unpack_any (g o1 c1 b2 o2 c2 : Nat) (f : Nat → Int) (cs0 : Array Value) (t : TypeId) (w : World) (hne : b2 ≠ g) (hf : Bytes f)
    (hin : ∀ i, i < 9600 → w.cell? ⟨b2, o2 + i, none⟩ = some (.int .u8 (f i))) (hr : Row w g cs0 t) (hsz : o1 + 5120 ≤ cs0.size) :
    Calls Try.prog 23 #[.slice (some ⟨g, o1, none⟩) 5120 c1, .slice (some ⟨b2, o2, none⟩) 9600 c2] w fun e w' => e = .returned (.tuple #[]) ∧ Filled w g cs0 t o1 (num16 f) 5120 w' := by
  have HR := Lib.hid hr
  clear hr
  go_enter Try.func23, Try.ntmps23
  go_wp2
  go_loopg [4, 5] 640 (fun gh s4 s5 wr => ∃ k : Nat, k ≤ 640 ∧ 640 - k ≤ gh ∧ s4 = .int .i64 (8 * (k : Int)) ∧ s5 = .int .i64 (k : Int) ∧ Filled w g cs0 t o1 (num16 f) (8 * k) wr)
  case atStart => exact ⟨0, by omega, by omega, rfl, rfl, Filled.zero HR.out _ _⟩
  case round =>
    obtain ⟨k, hk, hg, rfl, rfl, H⟩ := hrel
    by_cases hlt : k < 640
    · have HH := Lib.hid H
      have ho := H.only
      obtain ⟨x0, e0, l0, u0, q0⟩ := byteAt hf hne ho hin (k * 15) (by omega)
      have E0 := Lib.hid e0
      obtain ⟨x1, e1, l1, u1, q1⟩ := byteAt hf hne ho hin (k * 15 + 1) (by omega)
      have E1 := Lib.hid e1
      obtain ⟨x2, e2, l2, u2, q2⟩ := byteAt hf hne ho hin (k * 15 + 2) (by omega)
      have E2 := Lib.hid e2
      obtain ⟨x3, e3, l3, u3, q3⟩ := byteAt hf hne ho hin (k * 15 + 3) (by omega)
      have E3 := Lib.hid e3
      obtain ⟨x4, e4, l4, u4, q4⟩ := byteAt hf hne ho hin (k * 15 + 4) (by omega)
      have E4 := Lib.hid e4
      obtain ⟨x5, e5, l5, u5, q5⟩ := byteAt hf hne ho hin (k * 15 + 5) (by omega)
      have E5 := Lib.hid e5
      obtain ⟨x6, e6, l6, u6, q6⟩ := byteAt hf hne ho hin (k * 15 + 6) (by omega)
      have E6 := Lib.hid e6
      obtain ⟨x7, e7, l7, u7, q7⟩ := byteAt hf hne ho hin (k * 15 + 7) (by omega)
      have E7 := Lib.hid e7
      obtain ⟨x8, e8, l8, u8, q8⟩ := byteAt hf hne ho hin (k * 15 + 8) (by omega)
      have E8 := Lib.hid e8
      obtain ⟨x9, e9, l9, u9, q9⟩ := byteAt hf hne ho hin (k * 15 + 9) (by omega)
      have E9 := Lib.hid e9
      obtain ⟨x10, e10, l10, u10, q10⟩ := byteAt hf hne ho hin (k * 15 + 10) (by omega)
      have E10 := Lib.hid e10
      obtain ⟨x11, e11, l11, u11, q11⟩ := byteAt hf hne ho hin (k * 15 + 11) (by omega)
      have E11 := Lib.hid e11
      obtain ⟨x12, e12, l12, u12, q12⟩ := byteAt hf hne ho hin (k * 15 + 12) (by omega)
      have E12 := Lib.hid e12
      obtain ⟨x13, e13, l13, u13, q13⟩ := byteAt hf hne ho hin (k * 15 + 13) (by omega)
      have E13 := Lib.hid e13
      obtain ⟨x14, e14, l14, u14, q14⟩ := byteAt hf hne ho hin (k * 15 + 14) (by omega)
      have E14 := Lib.hid e14
      obtain ⟨v0, d0⟩ := H.next (8 * k) (by omega) (by omega)
      have f0 := H.free (o1 + (8 * k))
      obtain ⟨v1, d1⟩ := H.next (8 * k + 1) (by omega) (by omega)
      have f1 := H.free (o1 + (8 * k + 1))
      obtain ⟨v2, d2⟩ := H.next (8 * k + 2) (by omega) (by omega)
      have f2 := H.free (o1 + (8 * k + 2))
      obtain ⟨v3, d3⟩ := H.next (8 * k + 3) (by omega) (by omega)
      have f3 := H.free (o1 + (8 * k + 3))
      obtain ⟨v4, d4⟩ := H.next (8 * k + 4) (by omega) (by omega)
      have f4 := H.free (o1 + (8 * k + 4))
      obtain ⟨v5, d5⟩ := H.next (8 * k + 5) (by omega) (by omega)
      have f5 := H.free (o1 + (8 * k + 5))
      obtain ⟨v6, d6⟩ := H.next (8 * k + 6) (by omega) (by omega)
      have f6 := H.free (o1 + (8 * k + 6))
      obtain ⟨v7, d7⟩ := H.next (8 * k + 7) (by omega) (by omega)
      have f7 := H.free (o1 + (8 * k + 7))
      clear H ho hin hf hne HR e0 e1 e2 e3 e4 e5 e6 e7 e8 e9 e10 e11 e12 e13 e14
      go_wp2_with fail
      go_roundg (640 - (k + 1))
      case measure => omega
      case rel =>
        refine ⟨k + 1, by omega, by omega, by go_num, by go_num, ?_⟩
        exact unp_step HH.out (by omega)
          (by rw [up0 _ _ l0 u0 l1 u1, unp_0, E0.out, E1.out])
          (by rw [up1 _ _ _ l1 u1 l2 u2 l3 u3, unp_1, E1.out, E2.out, E3.out])
          (by rw [up2 _ _ _ l3 u3 l4 u4 l5 u5, unp_2, E3.out, E4.out, E5.out])
          (by rw [up3 _ _ _ l6 u6 l7 u7, unp_3, E5.out, E6.out, E7.out])
          (by rw [up4 _ _ _ l8 u8 l9 u9, unp_4, E7.out, E8.out, E9.out])
          (by rw [up5 _ _ _ l10 u10 l11 u11, unp_5, E9.out, E10.out, E11.out])
          (by rw [up6 _ _ _ l12 u12 l13 u13, unp_6, E11.out, E12.out, E13.out])
          (by rw [up7 _ _ l13 u13 l14 u14, unp_7, E13.out, E14.out])
    · obtain rfl : k = 640 := by omega
      have HH := Lib.hid H
      clear H HR hin hf hne
      go_wp2_with fail
      go_end0
      exact ⟨rfl, HH.out⟩

end Go.Proofs.Ytjmggahedcbjkaa
