/-
  WALK: pack reads 5120 numbers of 15 bits and writes 9600 bytes into a block that is known whole; all else is as it was. Conditions: the numbers lie in another block and are less than 32768; the place is within the block.
-/
import Derived.Test.YtjmggahedcbjkaaEq
import Derived.Test.YtjmggahedcbjkaaMem
import Derived.Test.YtjmggahedcbjkaaPkv
namespace Go.Proofs.Ytjmggahedcbjkaa
open Go.RowKit Go.Lib

theorem numAt {w wr : World} {g b o n : Nat} {y : Nat → Int} (hy : Nums y) (hne : b ≠ g) (ho : Only g w wr) (hin : ∀ i, i < n → w.cell? ⟨b, o + i, none⟩ = some (.int .u16 (y i))) (j : Nat) (hj : j < n) :
    ∃ x, x = y j ∧ 0 ≤ x ∧ x ≤ 32767 ∧ wr.cell? ⟨b, o + j, none⟩ = some (.int .u16 x) :=
  ⟨y j, rfl, (hy j).1, by have := (hy j).2; omega, (ho.cell b (o + j) hne).trans (hin j hj)⟩

def byte8 (y : Nat → Int) (i : Nat) : Value := .int .u8 (pk y i)

theorem pk_step {w wr : World} {g : Nat} {cs0 : Array Value} {t : TypeId} {o : Nat} {y : Nat → Int} {k : Nat} (H : Filled w g cs0 t o (byte8 y) (15 * k) wr) (hs : o + 15 * k + 15 ≤ cs0.size)
    {z0 z1 z2 z3 z4 z5 z6 z7 z8 z9 z10 z11 z12 z13 z14 : Int} (e0 : z0 = pk y (15 * k)) (e1 : z1 = pk y (15 * k + 1)) (e2 : z2 = pk y (15 * k + 2)) (e3 : z3 = pk y (15 * k + 3)) (e4 : z4 = pk y (15 * k + 4)) (e5 : z5 = pk y (15 * k + 5)) (e6 : z6 = pk y (15 * k + 6)) (e7 : z7 = pk y (15 * k + 7)) (e8 : z8 = pk y (15 * k + 8)) (e9 : z9 = pk y (15 * k + 9)) (e10 : z10 = pk y (15 * k + 10)) (e11 : z11 = pk y (15 * k + 11)) (e12 : z12 = pk y (15 * k + 12)) (e13 : z13 = pk y (15 * k + 13)) (e14 : z14 = pk y (15 * k + 14)) :
    Filled w g cs0 t o (byte8 y) (15 * k + 15) (((((((((((((((wr.setCell ⟨g, o + 15 * k, none⟩ (.int .u8 z0)).setCell ⟨g, o + (15 * k + 1), none⟩ (.int .u8 z1)).setCell ⟨g, o + (15 * k + 2), none⟩ (.int .u8 z2)).setCell ⟨g, o + (15 * k + 3), none⟩ (.int .u8 z3)).setCell ⟨g, o + (15 * k + 4), none⟩ (.int .u8 z4)).setCell ⟨g, o + (15 * k + 5), none⟩ (.int .u8 z5)).setCell ⟨g, o + (15 * k + 6), none⟩ (.int .u8 z6)).setCell ⟨g, o + (15 * k + 7), none⟩ (.int .u8 z7)).setCell ⟨g, o + (15 * k + 8), none⟩ (.int .u8 z8)).setCell ⟨g, o + (15 * k + 9), none⟩ (.int .u8 z9)).setCell ⟨g, o + (15 * k + 10), none⟩ (.int .u8 z10)).setCell ⟨g, o + (15 * k + 11), none⟩ (.int .u8 z11)).setCell ⟨g, o + (15 * k + 12), none⟩ (.int .u8 z12)).setCell ⟨g, o + (15 * k + 13), none⟩ (.int .u8 z13)).setCell ⟨g, o + (15 * k + 14), none⟩ (.int .u8 z14)) := by
  exact (((((((((((((((H.store (by omega) (v := .int .u8 z0) (by rw [e0]; rfl)).store (by omega) (v := .int .u8 z1) (by rw [e1]; rfl)).store (by omega) (v := .int .u8 z2) (by rw [e2]; rfl)).store (by omega) (v := .int .u8 z3) (by rw [e3]; rfl)).store (by omega) (v := .int .u8 z4) (by rw [e4]; rfl)).store (by omega) (v := .int .u8 z5) (by rw [e5]; rfl)).store (by omega) (v := .int .u8 z6) (by rw [e6]; rfl)).store (by omega) (v := .int .u8 z7) (by rw [e7]; rfl)).store (by omega) (v := .int .u8 z8) (by rw [e8]; rfl)).store (by omega) (v := .int .u8 z9) (by rw [e9]; rfl)).store (by omega) (v := .int .u8 z10) (by rw [e10]; rfl)).store (by omega) (v := .int .u8 z11) (by rw [e11]; rfl)).store (by omega) (v := .int .u8 z12) (by rw [e12]; rfl)).store (by omega) (v := .int .u8 z13) (by rw [e13]; rfl)).store (by omega) (v := .int .u8 z14) (by rw [e14]; rfl))

set_option maxRecDepth 100000 in
set_option maxHeartbeats 4000000 in
theorem pack_any (g o1 c1 b2 o2 c2 : Nat) (y : Nat → Int) (cs0 : Array Value) (t : TypeId) (w : World) (hne : b2 ≠ g) (hy : Nums y)
    (hin : ∀ i, i < 5120 → w.cell? ⟨b2, o2 + i, none⟩ = some (.int .u16 (y i))) (hr : Row w g cs0 t) (hsz : o1 + 9600 ≤ cs0.size) :
    Calls Try.prog 18 #[.slice (some ⟨g, o1, none⟩) 9600 c1, .slice (some ⟨b2, o2, none⟩) 5120 c2] w fun e w' => e = .returned (.tuple #[]) ∧ Filled w g cs0 t o1 (byte8 y) 9600 w' := by
  have HR := Lib.hid hr
  clear hr
  go_enter Try.func18, Try.ntmps18
  go_wp2
  go_loopg [4, 5] 640 (fun gh s4 s5 wr => ∃ k : Nat, k ≤ 640 ∧ 640 - k ≤ gh ∧ s4 = .int .i64 (15 * (k : Int)) ∧ s5 = .int .i64 (k : Int) ∧ Filled w g cs0 t o1 (byte8 y) (15 * k) wr)
  case atStart => exact ⟨0, by omega, by omega, rfl, rfl, Filled.zero HR.out _ _⟩
  case round =>
    obtain ⟨k, hk, hg, rfl, rfl, H⟩ := hrel
    by_cases hlt : k < 640
    · have HH := Lib.hid H
      have ho := H.only
      obtain ⟨x0, e0, l0, u0, q0⟩ := numAt hy hne ho hin (k * 8) (by omega)
      have E0 := Lib.hid e0
      obtain ⟨x1, e1, l1, u1, q1⟩ := numAt hy hne ho hin (k * 8 + 1) (by omega)
      have E1 := Lib.hid e1
      obtain ⟨x2, e2, l2, u2, q2⟩ := numAt hy hne ho hin (k * 8 + 2) (by omega)
      have E2 := Lib.hid e2
      obtain ⟨x3, e3, l3, u3, q3⟩ := numAt hy hne ho hin (k * 8 + 3) (by omega)
      have E3 := Lib.hid e3
      obtain ⟨x4, e4, l4, u4, q4⟩ := numAt hy hne ho hin (k * 8 + 4) (by omega)
      have E4 := Lib.hid e4
      obtain ⟨x5, e5, l5, u5, q5⟩ := numAt hy hne ho hin (k * 8 + 5) (by omega)
      have E5 := Lib.hid e5
      obtain ⟨x6, e6, l6, u6, q6⟩ := numAt hy hne ho hin (k * 8 + 6) (by omega)
      have E6 := Lib.hid e6
      obtain ⟨x7, e7, l7, u7, q7⟩ := numAt hy hne ho hin (k * 8 + 7) (by omega)
      have E7 := Lib.hid e7
      obtain ⟨v0, d0⟩ := H.next (15 * k) (by omega) (by omega)
      have f0 := H.free (o1 + (15 * k))
      obtain ⟨v1, d1⟩ := H.next (15 * k + 1) (by omega) (by omega)
      have f1 := H.free (o1 + (15 * k + 1))
      obtain ⟨v2, d2⟩ := H.next (15 * k + 2) (by omega) (by omega)
      have f2 := H.free (o1 + (15 * k + 2))
      obtain ⟨v3, d3⟩ := H.next (15 * k + 3) (by omega) (by omega)
      have f3 := H.free (o1 + (15 * k + 3))
      obtain ⟨v4, d4⟩ := H.next (15 * k + 4) (by omega) (by omega)
      have f4 := H.free (o1 + (15 * k + 4))
      obtain ⟨v5, d5⟩ := H.next (15 * k + 5) (by omega) (by omega)
      have f5 := H.free (o1 + (15 * k + 5))
      obtain ⟨v6, d6⟩ := H.next (15 * k + 6) (by omega) (by omega)
      have f6 := H.free (o1 + (15 * k + 6))
      obtain ⟨v7, d7⟩ := H.next (15 * k + 7) (by omega) (by omega)
      have f7 := H.free (o1 + (15 * k + 7))
      obtain ⟨v8, d8⟩ := H.next (15 * k + 8) (by omega) (by omega)
      have f8 := H.free (o1 + (15 * k + 8))
      obtain ⟨v9, d9⟩ := H.next (15 * k + 9) (by omega) (by omega)
      have f9 := H.free (o1 + (15 * k + 9))
      obtain ⟨v10, d10⟩ := H.next (15 * k + 10) (by omega) (by omega)
      have f10 := H.free (o1 + (15 * k + 10))
      obtain ⟨v11, d11⟩ := H.next (15 * k + 11) (by omega) (by omega)
      have f11 := H.free (o1 + (15 * k + 11))
      obtain ⟨v12, d12⟩ := H.next (15 * k + 12) (by omega) (by omega)
      have f12 := H.free (o1 + (15 * k + 12))
      obtain ⟨v13, d13⟩ := H.next (15 * k + 13) (by omega) (by omega)
      have f13 := H.free (o1 + (15 * k + 13))
      obtain ⟨v14, d14⟩ := H.next (15 * k + 14) (by omega) (by omega)
      have f14 := H.free (o1 + (15 * k + 14))
      clear H ho hin hy hne HR e0 e1 e2 e3 e4 e5 e6 e7
      go_wp2_with fail
      go_roundg (640 - (k + 1))
      case measure => omega
      case rel =>
        refine ⟨k + 1, by omega, by omega, by go_num, by go_num, ?_⟩
        exact pk_step HH.out (by omega)
          (by rw [pe0 _ l0 u0, pk_0, E0.out])
          (by rw [pe1 _ _ l0 u0 l1 u1, pk_1, E0.out, E1.out])
          (by rw [pe2 _ l1 u1, pk_2, E1.out])
          (by rw [pe3 _ _ l1 u1 l2 u2, pk_3, E1.out, E2.out])
          (by rw [pe4 _ l2 u2, pk_4, E2.out])
          (by rw [pe5 _ _ l2 u2 l3 u3, pk_5, E2.out, E3.out])
          (by rw [pe6 _ l3 u3, pk_6, E3.out])
          (by rw [pe7 _ _ l3 u3 l4 u4, pk_7, E3.out, E4.out])
          (by rw [pe8 _ l4 u4, pk_8, E4.out])
          (by rw [pe9 _ _ l4 u4 l5 u5, pk_9, E4.out, E5.out])
          (by rw [pe10 _ l5 u5, pk_10, E5.out])
          (by rw [pe11 _ _ l5 u5 l6 u6, pk_11, E5.out, E6.out])
          (by rw [pe12 _ l6 u6, pk_12, E6.out])
          (by rw [pe13 _ _ l6 u6 l7 u7, pk_13, E6.out, E7.out])
          (by rw [pe14 _ l7 u7, pk_14, E7.out])
    · obtain rfl : k = 640 := by omega
      have HH := Lib.hid H
      clear H HR hin hy hne
      go_wp2_with fail
      go_end0
      exact ⟨rfl, HH.out⟩

end Go.Proofs.Ytjmggahedcbjkaa
