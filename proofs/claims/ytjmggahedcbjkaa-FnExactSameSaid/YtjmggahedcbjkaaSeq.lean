/-
  WALK: PrivateKey.Equal of the keys of two rows of 19888 bytes says whether the rows are one; the world is as it was but for the count of draws. Condition: both keys lie in memory as read.
-/
import Derived.Test.YtjmggahedcbjkaaPeq
import Derived.Test.YtjmggahedcbjkaaSof
namespace Go.Proofs.Ytjmggahedcbjkaa
open Go.RowKit Go.Lib

theorem sec_lt {f : Nat → Int} (hf : Bytes f) (i : Nat) : 0 ≤ sec f i ∧ sec f i < 65536 := by
  have a := hf (9632 + (i * 2))
  have b := hf (9632 + (i * 2 + 1))
  unfold sec
  omega
theorem sec_inj {f h : Nat → Int} (hf : Bytes f) (hh : Bytes h) {i : Nat} (e : sec f i = sec h i) : f (9632 + i * 2) = h (9632 + i * 2) ∧ f (9632 + (i * 2 + 1)) = h (9632 + (i * 2 + 1)) := by
  have a := hf (9632 + (i * 2))
  have b := hf (9632 + (i * 2 + 1))
  have c := hh (9632 + (i * 2))
  have d := hh (9632 + (i * 2 + 1))
  unfold sec at e
  omega

/-- The four parts of a private key. -/
def q1 (f h : Nat → Int) : Bool := eqUpto (sec f) (sec h) 5120
def q2 (f h : Nat → Int) : Bool := eqUpto f h 16
def q3 (f h : Nat → Int) : Bool := eqUpto (fun i => f (16 + i)) (fun i => h (16 + i)) 9616
def q4 (f h : Nat → Int) : Bool := eqUpto (fun i => f (19872 + i)) (fun i => h (19872 + i)) 16

theorem parts_all {f h : Nat → Int} (hf : Bytes f) (hh : Bytes h) : eqUpto f h 19888 = (q1 f h && q2 f h && q3 f h && q4 f h) := by
  rw [Bool.eq_iff_iff]
  simp only [q1, q2, q3, q4, eqUpto, Bool.and_eq_true, decide_eq_true_eq]
  constructor
  · intro H
    refine ⟨⟨⟨fun j hj => ?_, fun j hj => H j (by omega)⟩, fun j hj => H (16 + j) (by omega)⟩, fun j hj => H (19872 + j) (by omega)⟩
    unfold sec
    rw [H (9632 + j * 2) (by omega), H (9632 + (j * 2 + 1)) (by omega)]
  · rintro ⟨⟨⟨h1, h2⟩, h3⟩, h4⟩ j hj
    by_cases c1 : j < 16
    · exact h2 j c1
    · by_cases c2 : j < 9632
      · have := h3 (j - 16) (by omega)
        rwa [show 16 + (j - 16) = j by omega] at this
      · by_cases c3 : j < 19872
        · have := sec_inj hf hh (h1 ((j - 9632) / 2) (by omega))
          by_cases c4 : (j - 9632) % 2 = 0
          · rw [show 9632 + (j - 9632) / 2 * 2 = j by omega] at this
            exact this.1
          · rw [show 9632 + ((j - 9632) / 2 * 2 + 1) = j by omega] at this
            exact this.2
        · have := h4 (j - 19872) (by omega)
          rwa [show 19872 + (j - 19872) = j by omega] at this

theorem SkAt.pk {f : Nat → Int} {g N : Nat} {t : TypeId} {w : World} (h : SkAt f g N t w) : PkAt (fun i => f (16 + i)) N 42 w := h.2
theorem SkAt.a {f : Nat → Int} {g N : Nat} {t : TypeId} {w : World} (h : SkAt f g N t w) (j : Nat) (hj : j < 16) : w.cell? ⟨g, 0 + j, none⟩ = some (.int .u8 (f j)) := by
  obtain ⟨⟨cs, hr, _, h1, _⟩, _⟩ := h
  rw [hr.cell, Nat.zero_add, h1 j hj]
theorem SkAt.p {f : Nat → Int} {g N : Nat} {t : TypeId} {w : World} (h : SkAt f g N t w) : w.cell? ⟨g, 16, none⟩ = some (.pointer (some ⟨N, 0, none⟩)) := by
  obtain ⟨⟨cs, hr, _, _, h1, _⟩, _⟩ := h
  rw [hr.cell, h1]
theorem SkAt.s {f : Nat → Int} {g N : Nat} {t : TypeId} {w : World} (h : SkAt f g N t w) (j : Nat) (hj : j < 5120) : w.cell? ⟨g, 17 + j, none⟩ = some (.int .u16 (sec f j)) := by
  obtain ⟨⟨cs, hr, _, _, _, h1, _⟩, _⟩ := h
  rw [hr.cell, h1 j hj]
theorem SkAt.z {f : Nat → Int} {g N : Nat} {t : TypeId} {w : World} (h : SkAt f g N t w) (j : Nat) (hj : j < 16) : w.cell? ⟨g, 5137 + j, none⟩ = some (.int .u8 (f (19872 + j))) := by
  obtain ⟨⟨cs, hr, _, _, _, _, h1⟩, _⟩ := h
  rw [hr.cell, h1 j hj]
theorem SkAt.drewN {f : Nat → Int} {g N : Nat} {t : TypeId} {w : World} (h : SkAt f g N t w) (n : Nat) : SkAt f g N t (w.drewN n) := h

section
variable {g1 N1 g2 N2 : Nat} {f h : Nat → Int} {t1 t2 : TypeId} {w : World}

theorem call20 (hf : Bytes f) (hh : Bytes h) (k1 : SkAt f g1 N1 t1 w) (k2 : SkAt h g2 N2 t2 w) (b : Bool) (hb : q1 f h = b) (v : Int) (hv : v = 1 - one01 b) :
    Calls Try.prog 20 #[.slice (some ⟨g1, 17, none⟩) 5120 5120, .slice (some ⟨g2, 17, none⟩) 5120 5120] w fun e w' => e = .returned (.int .i64 v) ∧ ∃ q, w' = w.drewN q := by
  have := ct_any 5120 g1 17 5120 g2 17 5120 (sec f) (sec h) w (by omega) (sec_lt hf) (sec_lt hh) k1.s k2.s
  rw [show eqUpto (sec f) (sec h) 5120 = b from hb, ← hv] at this
  exact this
theorem call21 (hf : Bytes f) (hh : Bytes h) (k1 : SkAt f g1 N1 t1 w) (k2 : SkAt h g2 N2 t2 w) (b : Bool) (hb : q2 f h = b) (v : Int) (hv : v = one01 b) :
    Calls Try.prog 21 #[.slice (some ⟨g1, 0, none⟩) 16 16, .slice (some ⟨g2, 0, none⟩) 16 16] w fun e w' => e = .returned (.int .i64 v) ∧ w' = w := by
  have := cmp21 g1 0 16 g2 0 16 f h w hf hh k1.a k2.a
  rw [show eqUpto f h 16 = b from hb, ← hv] at this
  exact this
theorem call16 (hf : Bytes f) (hh : Bytes h) (k1 : SkAt f g1 N1 t1 w) (k2 : SkAt h g2 N2 t2 w) (b : Bool) (hb : q3 f h = b) :
    Calls Try.prog 16 #[.pointer (some ⟨N1, 0, none⟩), .pointer (some ⟨N2, 0, none⟩)] w fun e w' => e = .returned (.bool b) ∧ ∃ q, w' = w.drewN q := by
  have := pkEq_any N1 N2 (fun i => f (16 + i)) (fun i => h (16 + i)) 42 42 w (fun i => hf (16 + i)) (fun i => hh (16 + i)) k1.pk k2.pk
  rw [show eqUpto (fun i => f (16 + i)) (fun i => h (16 + i)) 9616 = b from hb] at this
  exact this
theorem call22 (hf : Bytes f) (hh : Bytes h) (k1 : SkAt f g1 N1 t1 w) (k2 : SkAt h g2 N2 t2 w) :
    Calls Try.prog 22 #[.slice (some ⟨g1, 5137, none⟩) 16 16, .slice (some ⟨g2, 5137, none⟩) 16 16] w fun e w' => e = .returned (.bool (q4 f h)) ∧ w' = w :=
  cmp22 g1 5137 16 g2 5137 16 (fun i => f (19872 + i)) (fun i => h (19872 + i)) w (fun i => hf (19872 + i)) (fun i => hh (19872 + i)) k1.z k2.z
end

set_option maxRecDepth 100000 in
set_option maxHeartbeats 1000000 in
theorem skEq_1 (g1 N1 g2 N2 : Nat) (f h : Nat → Int) (t1 t2 : TypeId) (w : World) (hf : Bytes f) (hh : Bytes h) (k1 : SkAt f g1 N1 t1 w) (k2 : SkAt h g2 N2 t2 w) (b1 : q1 f h = false) :
    Calls Try.prog 15 #[.pointer (some ⟨g1, 0, none⟩), .pointer (some ⟨g2, 0, none⟩)] w fun e w' => e = .returned (.bool false) ∧ ∃ q, w' = w.drewN q := by
  have p1 := k1.p
  have p2 := k2.p
  have HF := Lib.hid hf
  have HH := Lib.hid hh
  have K1 := Lib.hid k1
  have K2 := Lib.hid k2
  have B1 := Lib.hid b1
  clear hf hh k1 k2 b1
  go_enter Try.func15, Try.ntmps15
  go_wp2_with fail
  go_quiet ((go_at_call 20; exact Calls.quiet_of (call20 HF.out HH.out (K1.out.drewN _) (K2.out.drewN _) false B1.out 1 rfl)))
  go_wp2_with fail
  go_ret
  exact ⟨rfl, _, rfl⟩

set_option maxRecDepth 100000 in
set_option maxHeartbeats 2000000 in
theorem skEq_2 (g1 N1 g2 N2 : Nat) (f h : Nat → Int) (t1 t2 : TypeId) (w : World) (hf : Bytes f) (hh : Bytes h) (k1 : SkAt f g1 N1 t1 w) (k2 : SkAt h g2 N2 t2 w) (b1 : q1 f h = true) (b2 : q2 f h = false) :
    Calls Try.prog 15 #[.pointer (some ⟨g1, 0, none⟩), .pointer (some ⟨g2, 0, none⟩)] w fun e w' => e = .returned (.bool false) ∧ ∃ q, w' = w.drewN q := by
  have p1 := k1.p
  have p2 := k2.p
  have HF := Lib.hid hf
  have HH := Lib.hid hh
  have K1 := Lib.hid k1
  have K2 := Lib.hid k2
  have B1 := Lib.hid b1
  have B2 := Lib.hid b2
  clear hf hh k1 k2 b1 b2
  go_enter Try.func15, Try.ntmps15
  go_wp2_with fail
  go_quiet ((first | (go_at_call 20; exact Calls.quiet_of (call20 HF.out HH.out (K1.out.drewN _) (K2.out.drewN _) true B1.out 0 rfl)) | (go_at_call 21; exact Calls.quiet_of_same (call21 HF.out HH.out (K1.out.drewN _) (K2.out.drewN _) false B2.out 0 rfl))))
  go_wp2_with fail
  go_ret
  exact ⟨rfl, _, rfl⟩

set_option maxRecDepth 100000 in
set_option maxHeartbeats 2000000 in
theorem skEq_3 (g1 N1 g2 N2 : Nat) (f h : Nat → Int) (t1 t2 : TypeId) (w : World) (hf : Bytes f) (hh : Bytes h) (k1 : SkAt f g1 N1 t1 w) (k2 : SkAt h g2 N2 t2 w) (b1 : q1 f h = true) (b2 : q2 f h = true) (b3 : q3 f h = false) :
    Calls Try.prog 15 #[.pointer (some ⟨g1, 0, none⟩), .pointer (some ⟨g2, 0, none⟩)] w fun e w' => e = .returned (.bool false) ∧ ∃ q, w' = w.drewN q := by
  have p1 := k1.p
  have p2 := k2.p
  have HF := Lib.hid hf
  have HH := Lib.hid hh
  have K1 := Lib.hid k1
  have K2 := Lib.hid k2
  have B1 := Lib.hid b1
  have B2 := Lib.hid b2
  have B3 := Lib.hid b3
  clear hf hh k1 k2 b1 b2 b3
  go_enter Try.func15, Try.ntmps15
  go_wp2_with fail
  go_quiet ((first | (go_at_call 20; exact Calls.quiet_of (call20 HF.out HH.out (K1.out.drewN _) (K2.out.drewN _) true B1.out 0 rfl)) | (go_at_call 21; exact Calls.quiet_of_same (call21 HF.out HH.out (K1.out.drewN _) (K2.out.drewN _) true B2.out 1 rfl)) | (go_at_call 16; exact Calls.quiet_of (call16 HF.out HH.out (K1.out.drewN _) (K2.out.drewN _) false B3.out))))
  go_wp2_with fail
  go_ret
  exact ⟨rfl, _, rfl⟩

set_option maxRecDepth 100000 in
set_option maxHeartbeats 2000000 in
theorem skEq_4 (g1 N1 g2 N2 : Nat) (f h : Nat → Int) (t1 t2 : TypeId) (w : World) (hf : Bytes f) (hh : Bytes h) (k1 : SkAt f g1 N1 t1 w) (k2 : SkAt h g2 N2 t2 w) (b1 : q1 f h = true) (b2 : q2 f h = true) (b3 : q3 f h = true) :
    Calls Try.prog 15 #[.pointer (some ⟨g1, 0, none⟩), .pointer (some ⟨g2, 0, none⟩)] w fun e w' => e = .returned (.bool (q4 f h)) ∧ ∃ q, w' = w.drewN q := by
  have p1 := k1.p
  have p2 := k2.p
  have HF := Lib.hid hf
  have HH := Lib.hid hh
  have K1 := Lib.hid k1
  have K2 := Lib.hid k2
  have B1 := Lib.hid b1
  have B2 := Lib.hid b2
  have B3 := Lib.hid b3
  clear hf hh k1 k2 b1 b2 b3
  go_enter Try.func15, Try.ntmps15
  go_wp2_with fail
  go_quiet ((first | (go_at_call 20; exact Calls.quiet_of (call20 HF.out HH.out (K1.out.drewN _) (K2.out.drewN _) true B1.out 0 rfl)) | (go_at_call 21; exact Calls.quiet_of_same (call21 HF.out HH.out (K1.out.drewN _) (K2.out.drewN _) true B2.out 1 rfl)) | (go_at_call 16; exact Calls.quiet_of (call16 HF.out HH.out (K1.out.drewN _) (K2.out.drewN _) true B3.out)) | (go_at_call 22; exact Calls.quiet_of_same (call22 HF.out HH.out (K1.out.drewN _) (K2.out.drewN _)))))
  go_wp2_with fail
  go_ret
  exact ⟨rfl, _, rfl⟩

theorem skEq_any (g1 N1 g2 N2 : Nat) (f h : Nat → Int) (t1 t2 : TypeId) (w : World) (hf : Bytes f) (hh : Bytes h) (k1 : SkAt f g1 N1 t1 w) (k2 : SkAt h g2 N2 t2 w) :
    Calls Try.prog 15 #[.pointer (some ⟨g1, 0, none⟩), .pointer (some ⟨g2, 0, none⟩)] w fun e w' => e = .returned (.bool (eqUpto f h 19888)) ∧ ∃ q, w' = w.drewN q := by
  rw [parts_all hf hh]
  cases b1 : q1 f h with
  | false => exact skEq_1 g1 N1 g2 N2 f h t1 t2 w hf hh k1 k2 b1
  | true =>
    cases b2 : q2 f h with
    | false => exact skEq_2 g1 N1 g2 N2 f h t1 t2 w hf hh k1 k2 b1 b2
    | true =>
      cases b3 : q3 f h with
      | false => exact skEq_3 g1 N1 g2 N2 f h t1 t2 w hf hh k1 k2 b1 b2 b3
      | true => exact skEq_4 g1 N1 g2 N2 f h t1 t2 w hf hh k1 k2 b1 b2 b3

end Go.Proofs.Ytjmggahedcbjkaa
