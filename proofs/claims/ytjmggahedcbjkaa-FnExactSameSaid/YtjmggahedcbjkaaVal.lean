/-
  PLAIN LEMMAS on numbers: fifteen bytes are eight numbers of fifteen bits, there and back. Conditions: bytes lie from 0 to 255.
-/
import Derived.WalkKit
import Derived.Laws.BitsAllLaws
import Derived.KernelRfl
namespace Go.Proofs.Ytjmggahedcbjkaa

theorem byteDec (p : Int → Prop) [∀ x, Decidable (p x)] (h : ∀ n : Fin 256, p (n.val : Int)) (x : Int) (l : 0 ≤ x) (u : x ≤ 255) : p x := by
  obtain ⟨n, rfl⟩ := Int.eq_ofNat_of_zero_le l
  exact h ⟨n, by omega⟩
theorem u8_hi1 (x : Int) (l : 0 ≤ x) (u : x ≤ 255) : IntKind.u16.wrap (bits BinOp.and IntKind.u8 x 254) / 2 = x / 2 := byteDec (fun x => IntKind.u16.wrap (bits BinOp.and IntKind.u8 x 254) / 2 = x / 2) (by decide +kernel) x l u
theorem u8_hi2 (x : Int) (l : 0 ≤ x) (u : x ≤ 255) : IntKind.u16.wrap (bits BinOp.and IntKind.u8 x 252) / 4 = x / 4 := byteDec (fun x => IntKind.u16.wrap (bits BinOp.and IntKind.u8 x 252) / 4 = x / 4) (by decide +kernel) x l u
theorem u8_hi3 (x : Int) (l : 0 ≤ x) (u : x ≤ 255) : IntKind.u16.wrap (bits BinOp.and IntKind.u8 x 248) / 8 = x / 8 := byteDec (fun x => IntKind.u16.wrap (bits BinOp.and IntKind.u8 x 248) / 8 = x / 8) (by decide +kernel) x l u
theorem u8_hi4 (x : Int) (l : 0 ≤ x) (u : x ≤ 255) : IntKind.u16.wrap (bits BinOp.and IntKind.u8 x 240) / 16 = x / 16 := byteDec (fun x => IntKind.u16.wrap (bits BinOp.and IntKind.u8 x 240) / 16 = x / 16) (by decide +kernel) x l u
theorem u8_hi5 (x : Int) (l : 0 ≤ x) (u : x ≤ 255) : IntKind.u16.wrap (bits BinOp.and IntKind.u8 x 224) / 32 = x / 32 := byteDec (fun x => IntKind.u16.wrap (bits BinOp.and IntKind.u8 x 224) / 32 = x / 32) (by decide +kernel) x l u
theorem u8_hi6 (x : Int) (l : 0 ≤ x) (u : x ≤ 255) : IntKind.u16.wrap (bits BinOp.and IntKind.u8 x 192) / 64 = x / 64 := byteDec (fun x => IntKind.u16.wrap (bits BinOp.and IntKind.u8 x 192) / 64 = x / 64) (by decide +kernel) x l u
theorem u8_hi7 (x : Int) (l : 0 ≤ x) (u : x ≤ 255) : IntKind.u16.wrap (bits BinOp.and IntKind.u8 x 128) / 128 = x / 128 := byteDec (fun x => IntKind.u16.wrap (bits BinOp.and IntKind.u8 x 128) / 128 = x / 128) (by decide +kernel) x l u
theorem u8_lo1 (x : Int) (l : 0 ≤ x) (u : x ≤ 255) : IntKind.u16.wrap (IntKind.u16.wrap (bits BinOp.and IntKind.u8 x 1) * 16384) = x % 2 * 16384 := byteDec (fun x => IntKind.u16.wrap (IntKind.u16.wrap (bits BinOp.and IntKind.u8 x 1) * 16384) = x % 2 * 16384) (by decide +kernel) x l u
theorem u8_lo2 (x : Int) (l : 0 ≤ x) (u : x ≤ 255) : IntKind.u16.wrap (IntKind.u16.wrap (bits BinOp.and IntKind.u8 x 3) * 8192) = x % 4 * 8192 := byteDec (fun x => IntKind.u16.wrap (IntKind.u16.wrap (bits BinOp.and IntKind.u8 x 3) * 8192) = x % 4 * 8192) (by decide +kernel) x l u
theorem u8_lo7 (x : Int) (l : 0 ≤ x) (u : x ≤ 255) : IntKind.u16.wrap (IntKind.u16.wrap (bits BinOp.and IntKind.u8 x 127) * 256) = x % 128 * 256 := byteDec (fun x => IntKind.u16.wrap (IntKind.u16.wrap (bits BinOp.and IntKind.u8 x 127) * 256) = x % 128 * 256) (by decide +kernel) x l u

theorem wraps16 (n : Int) (h₀ : 0 ≤ n) (h₁ : n < 2 ^ 16) : IntKind.u16.wrap n = n := by rw [IntKind.wrap_u16]; omega
theorem wraps8 (n : Int) (h₀ : 0 ≤ n) (h₁ : n < 2 ^ 8) : IntKind.u8.wrap n = n := by rw [IntKind.wrap_u8']; omega
/-- 'x | y' where y lies below 2^i and x is a multiple of 2^i. -/
theorem or16 (i : Nat) (x y : Int) (hx₀ : 0 ≤ x) (hx : x % 2 ^ i = 0) (hx₁ : x < 65536) (hy₀ : 0 ≤ y) (hy : y < 2 ^ i) (hy₁ : y < 65536) : bits .or .u16 x y = x + y :=
  bits_join .u16 16 (by decide) wraps16 i x y hx₀ hx hx₁ hy₀ hy hy₁
theorem or8 (i : Nat) (x y : Int) (hx₀ : 0 ≤ x) (hx : x % 2 ^ i = 0) (hx₁ : x < 256) (hy₀ : 0 ≤ y) (hy : y < 2 ^ i) (hy₁ : y < 256) : bits .or .u8 x y = x + y :=
  bits_join .u8 8 (by decide) wraps8 i x y hx₀ hx hx₁ hy₀ hy hy₁

/-- The numbers of a row of bytes: number i. -/
def unp (f : Nat → Int) (i : Nat) : Int :=
  match i % 8 with
  | 0 => f (i / 8 * 15) * 128 + f (i / 8 * 15 + 1) / 2
  | 1 => f (i / 8 * 15 + 1) % 2 * 16384 + f (i / 8 * 15 + 2) * 64 + f (i / 8 * 15 + 3) / 4
  | 2 => f (i / 8 * 15 + 3) % 4 * 8192 + f (i / 8 * 15 + 4) * 32 + f (i / 8 * 15 + 5) / 8
  | 3 => f (i / 8 * 15 + 5) % 8 * 4096 + f (i / 8 * 15 + 6) * 16 + f (i / 8 * 15 + 7) / 16
  | 4 => f (i / 8 * 15 + 7) % 16 * 2048 + f (i / 8 * 15 + 8) * 8 + f (i / 8 * 15 + 9) / 32
  | 5 => f (i / 8 * 15 + 9) % 32 * 1024 + f (i / 8 * 15 + 10) * 4 + f (i / 8 * 15 + 11) / 64
  | 6 => f (i / 8 * 15 + 11) % 64 * 512 + f (i / 8 * 15 + 12) * 2 + f (i / 8 * 15 + 13) / 128
  | _ => f (i / 8 * 15 + 13) % 128 * 256 + f (i / 8 * 15 + 14)

section
variable (f : Nat → Int) (k : Nat)
theorem unp_0 : unp f (8 * k) = f (k * 15) * 128 + f (k * 15 + 1) / 2 := by
  have h1 : 8 * k % 8 = 0 := by omega
  have h2 : 8 * k / 8 = k := by omega
  unfold unp; rw [h1, h2]; rfl
theorem unp_1 : unp f (8 * k + 1) = f (k * 15 + 1) % 2 * 16384 + f (k * 15 + 2) * 64 + f (k * 15 + 3) / 4 := by
  have h1 : (8 * k + 1) % 8 = 1 := by omega
  have h2 : (8 * k + 1) / 8 = k := by omega
  unfold unp; rw [h1, h2]; rfl
theorem unp_2 : unp f (8 * k + 2) = f (k * 15 + 3) % 4 * 8192 + f (k * 15 + 4) * 32 + f (k * 15 + 5) / 8 := by
  have h1 : (8 * k + 2) % 8 = 2 := by omega
  have h2 : (8 * k + 2) / 8 = k := by omega
  unfold unp; rw [h1, h2]; rfl
theorem unp_3 : unp f (8 * k + 3) = f (k * 15 + 5) % 8 * 4096 + f (k * 15 + 6) * 16 + f (k * 15 + 7) / 16 := by
  have h1 : (8 * k + 3) % 8 = 3 := by omega
  have h2 : (8 * k + 3) / 8 = k := by omega
  unfold unp; rw [h1, h2]; rfl
theorem unp_4 : unp f (8 * k + 4) = f (k * 15 + 7) % 16 * 2048 + f (k * 15 + 8) * 8 + f (k * 15 + 9) / 32 := by
  have h1 : (8 * k + 4) % 8 = 4 := by omega
  have h2 : (8 * k + 4) / 8 = k := by omega
  unfold unp; rw [h1, h2]; rfl
theorem unp_5 : unp f (8 * k + 5) = f (k * 15 + 9) % 32 * 1024 + f (k * 15 + 10) * 4 + f (k * 15 + 11) / 64 := by
  have h1 : (8 * k + 5) % 8 = 5 := by omega
  have h2 : (8 * k + 5) / 8 = k := by omega
  unfold unp; rw [h1, h2]; rfl
theorem unp_6 : unp f (8 * k + 6) = f (k * 15 + 11) % 64 * 512 + f (k * 15 + 12) * 2 + f (k * 15 + 13) / 128 := by
  have h1 : (8 * k + 6) % 8 = 6 := by omega
  have h2 : (8 * k + 6) / 8 = k := by omega
  unfold unp; rw [h1, h2]; rfl
theorem unp_7 : unp f (8 * k + 7) = f (k * 15 + 13) % 128 * 256 + f (k * 15 + 14) := by
  have h1 : (8 * k + 7) % 8 = 7 := by omega
  have h2 : (8 * k + 7) / 8 = k := by omega
  unfold unp; rw [h1, h2]; rfl
end

/-- Bytes. -/
def Bytes (f : Nat → Int) : Prop := ∀ i, 0 ≤ f i ∧ f i ≤ 255

theorem unp_lt (f : Nat → Int) (hb : Bytes f) (i : Nat) : 0 ≤ unp f i ∧ unp f i < 32768 := by
  have h := fun j => hb j
  unfold unp
  split
  all_goals
    have a1 := h (i / 8 * 15); have a2 := h (i / 8 * 15 + 1); have a3 := h (i / 8 * 15 + 2); have a4 := h (i / 8 * 15 + 3); have a5 := h (i / 8 * 15 + 4)
    have a6 := h (i / 8 * 15 + 5); have a7 := h (i / 8 * 15 + 6); have a8 := h (i / 8 * 15 + 7); have a9 := h (i / 8 * 15 + 8); have a10 := h (i / 8 * 15 + 9)
    have a11 := h (i / 8 * 15 + 10); have a12 := h (i / 8 * 15 + 11); have a13 := h (i / 8 * 15 + 12); have a14 := h (i / 8 * 15 + 13); have a15 := h (i / 8 * 15 + 14)
    omega

theorem up0 (x y : Int) (lx : 0 ≤ x) (hx : x ≤ 255) (ly : 0 ≤ y) (hy : y ≤ 255) : bits BinOp.or IntKind.u16 (x * 128) (IntKind.u16.wrap (bits BinOp.and IntKind.u8 y 254) / 2) = x * 128 + y / 2 := by
  rw [u8_hi1 y ly hy, or16 7 _ _ (by omega) (by omega) (by omega) (by omega) (by omega) (by omega)]
theorem up7 (x y : Int) (lx : 0 ≤ x) (hx : x ≤ 255) (ly : 0 ≤ y) (hy : y ≤ 255) : bits BinOp.or IntKind.u16 (IntKind.u16.wrap (IntKind.u16.wrap (bits BinOp.and IntKind.u8 x 127) * 256)) y = x % 128 * 256 + y := by
  rw [u8_lo7 x lx hx, or16 8 _ _ (by omega) (by omega) (by omega) (by omega) (by omega) (by omega)]
theorem up1 (x y z : Int) (lx : 0 ≤ x) (hx : x ≤ 255) (ly : 0 ≤ y) (hy : y ≤ 255) (lz : 0 ≤ z) (hz : z ≤ 255) : bits BinOp.or IntKind.u16 (bits BinOp.or IntKind.u16 (IntKind.u16.wrap (IntKind.u16.wrap (bits BinOp.and IntKind.u8 x 1) * 16384)) (y * 64)) (IntKind.u16.wrap (bits BinOp.and IntKind.u8 z 252) / 4) = x % 2 * 16384 + y * 64 + z / 4 := by
  rw [u8_hi2 z lz hz, u8_lo1 x lx hx, or16 14 _ (y * 64) (by omega) (by omega) (by omega) (by omega) (by omega) (by omega), or16 6 _ _ (by omega) (by omega) (by omega) (by omega) (by omega) (by omega)]
theorem up2 (x y z : Int) (lx : 0 ≤ x) (hx : x ≤ 255) (ly : 0 ≤ y) (hy : y ≤ 255) (lz : 0 ≤ z) (hz : z ≤ 255) : bits BinOp.or IntKind.u16 (bits BinOp.or IntKind.u16 (IntKind.u16.wrap (IntKind.u16.wrap (bits BinOp.and IntKind.u8 x 3) * 8192)) (y * 32)) (IntKind.u16.wrap (bits BinOp.and IntKind.u8 z 248) / 8) = x % 4 * 8192 + y * 32 + z / 8 := by
  rw [u8_hi3 z lz hz, u8_lo2 x lx hx, or16 13 _ (y * 32) (by omega) (by omega) (by omega) (by omega) (by omega) (by omega), or16 5 _ _ (by omega) (by omega) (by omega) (by omega) (by omega) (by omega)]

theorem up3 (x y z : Int) (ly : 0 ≤ y) (hy : y ≤ 255) (lz : 0 ≤ z) (hz : z ≤ 255) : bits BinOp.or IntKind.u16 (bits BinOp.or IntKind.u16 (x % 8 * 4096) (y * 16)) (IntKind.u16.wrap (bits BinOp.and IntKind.u8 z 240) / 16) = x % 8 * 4096 + y * 16 + z / 16 := by
  rw [u8_hi4 z lz hz, or16 12 _ (y * 16) (by omega) (by omega) (by omega) (by omega) (by omega) (by omega), or16 4 _ _ (by omega) (by omega) (by omega) (by omega) (by omega) (by omega)]
theorem up4 (x y z : Int) (ly : 0 ≤ y) (hy : y ≤ 255) (lz : 0 ≤ z) (hz : z ≤ 255) : bits BinOp.or IntKind.u16 (bits BinOp.or IntKind.u16 (x % 16 * 2048) (y * 8)) (IntKind.u16.wrap (bits BinOp.and IntKind.u8 z 224) / 32) = x % 16 * 2048 + y * 8 + z / 32 := by
  rw [u8_hi5 z lz hz, or16 11 _ (y * 8) (by omega) (by omega) (by omega) (by omega) (by omega) (by omega), or16 3 _ _ (by omega) (by omega) (by omega) (by omega) (by omega) (by omega)]
theorem up5 (x y z : Int) (ly : 0 ≤ y) (hy : y ≤ 255) (lz : 0 ≤ z) (hz : z ≤ 255) : bits BinOp.or IntKind.u16 (bits BinOp.or IntKind.u16 (x % 32 * 1024) (y * 4)) (IntKind.u16.wrap (bits BinOp.and IntKind.u8 z 192) / 64) = x % 32 * 1024 + y * 4 + z / 64 := by
  rw [u8_hi6 z lz hz, or16 10 _ (y * 4) (by omega) (by omega) (by omega) (by omega) (by omega) (by omega), or16 2 _ _ (by omega) (by omega) (by omega) (by omega) (by omega) (by omega)]
theorem up6 (x y z : Int) (ly : 0 ≤ y) (hy : y ≤ 255) (lz : 0 ≤ z) (hz : z ≤ 255) : bits BinOp.or IntKind.u16 (bits BinOp.or IntKind.u16 (x % 64 * 512) (y * 2)) (IntKind.u16.wrap (bits BinOp.and IntKind.u8 z 128) / 128) = x % 64 * 512 + y * 2 + z / 128 := by
  rw [u8_hi7 z lz hz, or16 9 _ (y * 2) (by omega) (by omega) (by omega) (by omega) (by omega) (by omega), or16 1 _ _ (by omega) (by omega) (by omega) (by omega) (by omega) (by omega)]

end Go.Proofs.Ytjmggahedcbjkaa
