/-
  PLAIN LEMMAS on numbers: eight numbers of fifteen bits are fifteen bytes; packed behind unpacked gives the bytes again, so unpacking is one to one. Conditions: bytes lie from 0 to 255.
-/
import Derived.Test.YtjmggahedcbjkaaVal
namespace Go.Proofs.Ytjmggahedcbjkaa

theorem and16 (i : Nat) (hi : i ≤ 16) (x : Int) (h₀ : 0 ≤ x) (h₁ : x < 65536) : bits .and .u16 x (2 ^ i - 1) = x % 2 ^ i := bits_mask .u16 16 (by decide) wraps16 i hi x h₀ h₁
theorem and16_15 (x : Int) (h₀ : 0 ≤ x) (h₁ : x < 65536) : bits .and .u16 x 32767 = x % 32768 := and16 15 (by omega) x h₀ h₁
theorem and16_7 (x : Int) (h₀ : 0 ≤ x) (h₁ : x < 65536) : bits .and .u16 x 127 = x % 128 := and16 7 (by omega) x h₀ h₁
theorem and16_6 (x : Int) (h₀ : 0 ≤ x) (h₁ : x < 65536) : bits .and .u16 x 63 = x % 64 := and16 6 (by omega) x h₀ h₁
theorem and16_5 (x : Int) (h₀ : 0 ≤ x) (h₁ : x < 65536) : bits .and .u16 x 31 = x % 32 := and16 5 (by omega) x h₀ h₁
theorem and16_4 (x : Int) (h₀ : 0 ≤ x) (h₁ : x < 65536) : bits .and .u16 x 15 = x % 16 := and16 4 (by omega) x h₀ h₁
theorem and16_3 (x : Int) (h₀ : 0 ≤ x) (h₁ : x < 65536) : bits .and .u16 x 7 = x % 8 := and16 3 (by omega) x h₀ h₁
theorem and16_2 (x : Int) (h₀ : 0 ≤ x) (h₁ : x < 65536) : bits .and .u16 x 3 = x % 4 := and16 2 (by omega) x h₀ h₁
theorem and16_1 (x : Int) (h₀ : 0 ≤ x) (h₁ : x < 65536) : bits .and .u16 x 1 = x % 2 := and16 1 (by omega) x h₀ h₁

/-- The bytes of a row of numbers: byte i. -/
def pk (y : Nat → Int) (i : Nat) : Int :=
  match i % 15 with
  | 0 => y (i / 15 * 8) / 128 % 256
  | 1 => y (i / 15 * 8) % 128 * 2 + y (i / 15 * 8 + 1) / 16384
  | 2 => y (i / 15 * 8 + 1) / 64 % 256
  | 3 => y (i / 15 * 8 + 1) % 64 * 4 + y (i / 15 * 8 + 2) / 8192
  | 4 => y (i / 15 * 8 + 2) / 32 % 256
  | 5 => y (i / 15 * 8 + 2) % 32 * 8 + y (i / 15 * 8 + 3) / 4096
  | 6 => y (i / 15 * 8 + 3) / 16 % 256
  | 7 => y (i / 15 * 8 + 3) % 16 * 16 + y (i / 15 * 8 + 4) / 2048
  | 8 => y (i / 15 * 8 + 4) / 8 % 256
  | 9 => y (i / 15 * 8 + 4) % 8 * 32 + y (i / 15 * 8 + 5) / 1024
  | 10 => y (i / 15 * 8 + 5) / 4 % 256
  | 11 => y (i / 15 * 8 + 5) % 4 * 64 + y (i / 15 * 8 + 6) / 512
  | 12 => y (i / 15 * 8 + 6) / 2 % 256
  | 13 => y (i / 15 * 8 + 6) % 2 * 128 + y (i / 15 * 8 + 7) / 256
  | _ => y (i / 15 * 8 + 7) % 256

section
variable (y : Nat → Int) (k : Nat)
theorem pk_0 : pk y (15 * k) = y (k * 8) / 128 % 256 := by
  have h1 : (15 * k) % 15 = 0 := by omega
  have h2 : (15 * k) / 15 = k := by omega
  unfold pk; rw [h1, h2]; rfl
theorem pk_1 : pk y (15 * k + 1) = y (k * 8) % 128 * 2 + y (k * 8 + 1) / 16384 := by
  have h1 : (15 * k + 1) % 15 = 1 := by omega
  have h2 : (15 * k + 1) / 15 = k := by omega
  unfold pk; rw [h1, h2]; rfl
theorem pk_2 : pk y (15 * k + 2) = y (k * 8 + 1) / 64 % 256 := by
  have h1 : (15 * k + 2) % 15 = 2 := by omega
  have h2 : (15 * k + 2) / 15 = k := by omega
  unfold pk; rw [h1, h2]; rfl
theorem pk_3 : pk y (15 * k + 3) = y (k * 8 + 1) % 64 * 4 + y (k * 8 + 2) / 8192 := by
  have h1 : (15 * k + 3) % 15 = 3 := by omega
  have h2 : (15 * k + 3) / 15 = k := by omega
  unfold pk; rw [h1, h2]; rfl
theorem pk_4 : pk y (15 * k + 4) = y (k * 8 + 2) / 32 % 256 := by
  have h1 : (15 * k + 4) % 15 = 4 := by omega
  have h2 : (15 * k + 4) / 15 = k := by omega
  unfold pk; rw [h1, h2]; rfl
theorem pk_5 : pk y (15 * k + 5) = y (k * 8 + 2) % 32 * 8 + y (k * 8 + 3) / 4096 := by
  have h1 : (15 * k + 5) % 15 = 5 := by omega
  have h2 : (15 * k + 5) / 15 = k := by omega
  unfold pk; rw [h1, h2]; rfl
theorem pk_6 : pk y (15 * k + 6) = y (k * 8 + 3) / 16 % 256 := by
  have h1 : (15 * k + 6) % 15 = 6 := by omega
  have h2 : (15 * k + 6) / 15 = k := by omega
  unfold pk; rw [h1, h2]; rfl
theorem pk_7 : pk y (15 * k + 7) = y (k * 8 + 3) % 16 * 16 + y (k * 8 + 4) / 2048 := by
  have h1 : (15 * k + 7) % 15 = 7 := by omega
  have h2 : (15 * k + 7) / 15 = k := by omega
  unfold pk; rw [h1, h2]; rfl
theorem pk_8 : pk y (15 * k + 8) = y (k * 8 + 4) / 8 % 256 := by
  have h1 : (15 * k + 8) % 15 = 8 := by omega
  have h2 : (15 * k + 8) / 15 = k := by omega
  unfold pk; rw [h1, h2]; rfl
theorem pk_9 : pk y (15 * k + 9) = y (k * 8 + 4) % 8 * 32 + y (k * 8 + 5) / 1024 := by
  have h1 : (15 * k + 9) % 15 = 9 := by omega
  have h2 : (15 * k + 9) / 15 = k := by omega
  unfold pk; rw [h1, h2]; rfl
theorem pk_10 : pk y (15 * k + 10) = y (k * 8 + 5) / 4 % 256 := by
  have h1 : (15 * k + 10) % 15 = 10 := by omega
  have h2 : (15 * k + 10) / 15 = k := by omega
  unfold pk; rw [h1, h2]; rfl
theorem pk_11 : pk y (15 * k + 11) = y (k * 8 + 5) % 4 * 64 + y (k * 8 + 6) / 512 := by
  have h1 : (15 * k + 11) % 15 = 11 := by omega
  have h2 : (15 * k + 11) / 15 = k := by omega
  unfold pk; rw [h1, h2]; rfl
theorem pk_12 : pk y (15 * k + 12) = y (k * 8 + 6) / 2 % 256 := by
  have h1 : (15 * k + 12) % 15 = 12 := by omega
  have h2 : (15 * k + 12) / 15 = k := by omega
  unfold pk; rw [h1, h2]; rfl
theorem pk_13 : pk y (15 * k + 13) = y (k * 8 + 6) % 2 * 128 + y (k * 8 + 7) / 256 := by
  have h1 : (15 * k + 13) % 15 = 13 := by omega
  have h2 : (15 * k + 13) / 15 = k := by omega
  unfold pk; rw [h1, h2]; rfl
theorem pk_14 : pk y (15 * k + 14) = y (k * 8 + 7) % 256 := by
  have h1 : (15 * k + 14) % 15 = 14 := by omega
  have h2 : (15 * k + 14) / 15 = k := by omega
  unfold pk; rw [h1, h2]; rfl
end

/-- Numbers of fifteen bits. -/
def Nums (y : Nat → Int) : Prop := ∀ i, 0 ≤ y i ∧ y i < 32768
theorem Nums.unp {f : Nat → Int} (hb : Bytes f) : Nums (unp f) := unp_lt f hb

theorem pe0 (x : Int) (lx : 0 ≤ x) (hx : x ≤ 32767) : bits BinOp.and IntKind.u16 x 32767 / 128 % 256 = x / 128 % 256 := by rw [and16_15 x lx (by omega)]; omega
theorem pe2 (x : Int) (lx : 0 ≤ x) (hx : x ≤ 32767) : bits BinOp.and IntKind.u16 x 32767 / 64 % 256 = x / 64 % 256 := by rw [and16_15 x lx (by omega)]; omega
theorem pe4 (x : Int) (lx : 0 ≤ x) (hx : x ≤ 32767) : bits BinOp.and IntKind.u16 x 32767 / 32 % 256 = x / 32 % 256 := by rw [and16_15 x lx (by omega)]; omega
theorem pe6 (x : Int) (lx : 0 ≤ x) (hx : x ≤ 32767) : bits BinOp.and IntKind.u16 x 32767 / 16 % 256 = x / 16 % 256 := by rw [and16_15 x lx (by omega)]; omega
theorem pe8 (x : Int) (lx : 0 ≤ x) (hx : x ≤ 32767) : bits BinOp.and IntKind.u16 x 32767 / 8 % 256 = x / 8 % 256 := by rw [and16_15 x lx (by omega)]; omega
theorem pe10 (x : Int) (lx : 0 ≤ x) (hx : x ≤ 32767) : bits BinOp.and IntKind.u16 x 32767 / 4 % 256 = x / 4 % 256 := by rw [and16_15 x lx (by omega)]; omega
theorem pe12 (x : Int) (lx : 0 ≤ x) (hx : x ≤ 32767) : bits BinOp.and IntKind.u16 x 32767 / 2 % 256 = x / 2 % 256 := by rw [and16_15 x lx (by omega)]; omega
theorem pe14 (x : Int) (lx : 0 ≤ x) (hx : x ≤ 32767) : bits BinOp.and IntKind.u16 x 32767 % 256 = x % 256 := by rw [and16_15 x lx (by omega)]; omega
theorem pe1 (x z : Int) (lx : 0 ≤ x) (hx : x ≤ 32767) (lz : 0 ≤ z) (hz : z ≤ 32767) : bits BinOp.or IntKind.u8 (bits BinOp.and IntKind.u16 (bits BinOp.and IntKind.u16 x 32767) 127 % 256 * 2 % 256) (bits BinOp.and IntKind.u16 z 32767 / 16384 % 256) = x % 128 * 2 + z / 16384 := by
  have e1 : x % 32768 = x := by omega
  have e2 : z % 32768 = z := by omega
  rw [and16_15 x lx (by omega), and16_15 z lz (by omega), e1, e2, and16_7 x lx (by omega), or8 1 _ _ (by omega) (by omega) (by omega) (by omega) (by omega) (by omega)]
  omega
theorem pe3 (x z : Int) (lx : 0 ≤ x) (hx : x ≤ 32767) (lz : 0 ≤ z) (hz : z ≤ 32767) : bits BinOp.or IntKind.u8 (bits BinOp.and IntKind.u16 (bits BinOp.and IntKind.u16 x 32767) 63 % 256 * 4 % 256) (bits BinOp.and IntKind.u16 z 32767 / 8192 % 256) = x % 64 * 4 + z / 8192 := by
  have e1 : x % 32768 = x := by omega
  have e2 : z % 32768 = z := by omega
  rw [and16_15 x lx (by omega), and16_15 z lz (by omega), e1, e2, and16_6 x lx (by omega), or8 2 _ _ (by omega) (by omega) (by omega) (by omega) (by omega) (by omega)]
  omega
theorem pe5 (x z : Int) (lx : 0 ≤ x) (hx : x ≤ 32767) (lz : 0 ≤ z) (hz : z ≤ 32767) : bits BinOp.or IntKind.u8 (bits BinOp.and IntKind.u16 (bits BinOp.and IntKind.u16 x 32767) 31 % 256 * 8 % 256) (bits BinOp.and IntKind.u16 z 32767 / 4096 % 256) = x % 32 * 8 + z / 4096 := by
  have e1 : x % 32768 = x := by omega
  have e2 : z % 32768 = z := by omega
  rw [and16_15 x lx (by omega), and16_15 z lz (by omega), e1, e2, and16_5 x lx (by omega), or8 3 _ _ (by omega) (by omega) (by omega) (by omega) (by omega) (by omega)]
  omega
theorem pe7 (x z : Int) (lx : 0 ≤ x) (hx : x ≤ 32767) (lz : 0 ≤ z) (hz : z ≤ 32767) : bits BinOp.or IntKind.u8 (bits BinOp.and IntKind.u16 (bits BinOp.and IntKind.u16 x 32767) 15 % 256 * 16 % 256) (bits BinOp.and IntKind.u16 z 32767 / 2048 % 256) = x % 16 * 16 + z / 2048 := by
  have e1 : x % 32768 = x := by omega
  have e2 : z % 32768 = z := by omega
  rw [and16_15 x lx (by omega), and16_15 z lz (by omega), e1, e2, and16_4 x lx (by omega), or8 4 _ _ (by omega) (by omega) (by omega) (by omega) (by omega) (by omega)]
  omega
theorem pe9 (x z : Int) (lx : 0 ≤ x) (hx : x ≤ 32767) (lz : 0 ≤ z) (hz : z ≤ 32767) : bits BinOp.or IntKind.u8 (bits BinOp.and IntKind.u16 (bits BinOp.and IntKind.u16 x 32767) 7 % 256 * 32 % 256) (bits BinOp.and IntKind.u16 z 32767 / 1024 % 256) = x % 8 * 32 + z / 1024 := by
  have e1 : x % 32768 = x := by omega
  have e2 : z % 32768 = z := by omega
  rw [and16_15 x lx (by omega), and16_15 z lz (by omega), e1, e2, and16_3 x lx (by omega), or8 5 _ _ (by omega) (by omega) (by omega) (by omega) (by omega) (by omega)]
  omega
theorem pe11 (x z : Int) (lx : 0 ≤ x) (hx : x ≤ 32767) (lz : 0 ≤ z) (hz : z ≤ 32767) : bits BinOp.or IntKind.u8 (bits BinOp.and IntKind.u16 (bits BinOp.and IntKind.u16 x 32767) 3 % 256 * 64 % 256) (bits BinOp.and IntKind.u16 z 32767 / 512 % 256) = x % 4 * 64 + z / 512 := by
  have e1 : x % 32768 = x := by omega
  have e2 : z % 32768 = z := by omega
  rw [and16_15 x lx (by omega), and16_15 z lz (by omega), e1, e2, and16_2 x lx (by omega), or8 6 _ _ (by omega) (by omega) (by omega) (by omega) (by omega) (by omega)]
  omega
theorem pe13 (x z : Int) (lx : 0 ≤ x) (hx : x ≤ 32767) (lz : 0 ≤ z) (hz : z ≤ 32767) : bits BinOp.or IntKind.u8 (bits BinOp.and IntKind.u16 (bits BinOp.and IntKind.u16 x 32767) 1 % 256 * 128 % 256) (bits BinOp.and IntKind.u16 z 32767 / 256 % 256) = x % 2 * 128 + z / 256 := by
  have e1 : x % 32768 = x := by omega
  have e2 : z % 32768 = z := by omega
  rw [and16_15 x lx (by omega), and16_15 z lz (by omega), e1, e2, and16_1 x lx (by omega), or8 7 _ _ (by omega) (by omega) (by omega) (by omega) (by omega) (by omega)]
  omega

section
variable (f : Nat → Int) (k : Nat)
theorem unq_0 : unp f (k * 8) = unp f (8 * k) := by rw [Nat.mul_comm]
theorem unq_1 : unp f (k * 8 + 1) = unp f (8 * k + 1) := by rw [Nat.mul_comm]
theorem unq_2 : unp f (k * 8 + 2) = unp f (8 * k + 2) := by rw [Nat.mul_comm]
theorem unq_3 : unp f (k * 8 + 3) = unp f (8 * k + 3) := by rw [Nat.mul_comm]
theorem unq_4 : unp f (k * 8 + 4) = unp f (8 * k + 4) := by rw [Nat.mul_comm]
theorem unq_5 : unp f (k * 8 + 5) = unp f (8 * k + 5) := by rw [Nat.mul_comm]
theorem unq_6 : unp f (k * 8 + 6) = unp f (8 * k + 6) := by rw [Nat.mul_comm]
theorem unq_7 : unp f (k * 8 + 7) = unp f (8 * k + 7) := by rw [Nat.mul_comm]
end

theorem pk_unp_at (f : Nat → Int) (hb : Bytes f) (k r : Nat) (hr : r < 15) : pk (unp f) (15 * k + r) = f (k * 15 + r) := by
  have b0 := hb (k * 15)
  have b1 := hb (k * 15 + 1)
  have b2 := hb (k * 15 + 2)
  have b3 := hb (k * 15 + 3)
  have b4 := hb (k * 15 + 4)
  have b5 := hb (k * 15 + 5)
  have b6 := hb (k * 15 + 6)
  have b7 := hb (k * 15 + 7)
  have b8 := hb (k * 15 + 8)
  have b9 := hb (k * 15 + 9)
  have b10 := hb (k * 15 + 10)
  have b11 := hb (k * 15 + 11)
  have b12 := hb (k * 15 + 12)
  have b13 := hb (k * 15 + 13)
  have b14 := hb (k * 15 + 14)
  obtain rfl | rfl | rfl | rfl | rfl | rfl | rfl | rfl | rfl | rfl | rfl | rfl | rfl | rfl | rfl : r = 0 ∨ r = 1 ∨ r = 2 ∨ r = 3 ∨ r = 4 ∨ r = 5 ∨ r = 6 ∨ r = 7 ∨ r = 8 ∨ r = 9 ∨ r = 10 ∨ r = 11 ∨ r = 12 ∨ r = 13 ∨ r = 14 := by omega
  · rw [Nat.add_zero, Nat.add_zero, pk_0, unq_0, unp_0]; omega
  · rw [pk_1, unq_0, unp_0, unq_1, unp_1]; omega
  · rw [pk_2, unq_1, unp_1]; omega
  · rw [pk_3, unq_1, unp_1, unq_2, unp_2]; omega
  · rw [pk_4, unq_2, unp_2]; omega
  · rw [pk_5, unq_2, unp_2, unq_3, unp_3]; omega
  · rw [pk_6, unq_3, unp_3]; omega
  · rw [pk_7, unq_3, unp_3, unq_4, unp_4]; omega
  · rw [pk_8, unq_4, unp_4]; omega
  · rw [pk_9, unq_4, unp_4, unq_5, unp_5]; omega
  · rw [pk_10, unq_5, unp_5]; omega
  · rw [pk_11, unq_5, unp_5, unq_6, unp_6]; omega
  · rw [pk_12, unq_6, unp_6]; omega
  · rw [pk_13, unq_6, unp_6, unq_7, unp_7]; omega
  · rw [pk_14, unq_7, unp_7]; omega

/-- Packed behind unpacked: the bytes. -/
theorem pk_unp (f : Nat → Int) (hb : Bytes f) (i : Nat) : pk (unp f) i = f i := by
  have h := pk_unp_at f hb (i / 15) (i % 15) (Nat.mod_lt _ (by omega))
  rwa [show 15 * (i / 15) + i % 15 = i by omega, show i / 15 * 15 + i % 15 = i by omega] at h

theorem pk_congr {y z : Nat → Int} {n : Nat} (h : ∀ j, j < n * 8 → y j = z j) (i : Nat) (hi : i < n * 15) : pk y i = pk z i := by
  have hk : i / 15 < n := by omega
  have e : ∀ j, j < 8 → y (i / 15 * 8 + j) = z (i / 15 * 8 + j) := fun j hj => h _ (by omega)
  have e0 := e 0 (by omega)
  rw [Nat.add_zero] at e0
  unfold pk
  split
  all_goals simp only [e0, e 1 (by omega), e 2 (by omega), e 3 (by omega), e 4 (by omega), e 5 (by omega), e 6 (by omega), e 7 (by omega)]

/-- Unpacking is one to one. -/
theorem unp_inj {f g : Nat → Int} (hf : Bytes f) (hg : Bytes g) {n : Nat} (h : ∀ j, j < n * 8 → unp f j = unp g j) (i : Nat) (hi : i < n * 15) : f i = g i := by
  rw [← pk_unp f hf i, ← pk_unp g hg i]
  exact pk_congr h i hi
theorem unp_congr {f g : Nat → Int} {n : Nat} (h : ∀ j, j < n * 15 → f j = g j) (i : Nat) (hi : i < n * 8) : unp f i = unp g i := by
  have hk : i / 8 < n := by omega
  have e : ∀ j, j < 15 → f (i / 8 * 15 + j) = g (i / 8 * 15 + j) := fun j hj => h _ (by omega)
  have e0 := e 0 (by omega)
  rw [Nat.add_zero] at e0
  unfold unp
  split
  all_goals simp only [e0, e 1 (by omega), e 2 (by omega), e 3 (by omega), e 4 (by omega), e 5 (by omega), e 6 (by omega), e 7 (by omega), e 8 (by omega), e 9 (by omega), e 10 (by omega), e 11 (by omega), e 12 (by omega), e 13 (by omega), e 14 (by omega)]

end Go.Proofs.Ytjmggahedcbjkaa
