import Derived.WalkKit
namespace Go.Proofs.YbulkaljiFmt
set_option linter.unusedVariables false
set_option linter.unusedSimpArgs false

/-! ### plain numbers: minimal varints -/
/-- What the first i bytes, all of them going on, have brought. -/
def acc (z : Nat → Nat) : Nat → Nat
  | 0 => 0
  | i + 1 => acc z i + z i % 128 * 2 ^ (7 * i)

theorem acc_lt (z : Nat → Nat) : ∀ i, acc z i < 2 ^ (7 * i)
  | 0 => by simp [acc]
  | i + 1 => by
    have ih := acc_lt z i
    have hm : z i % 128 + 1 ≤ 128 := by omega
    have h := Nat.mul_le_mul_right (2 ^ (7 * i)) hm
    have e : 2 ^ (7 * (i + 1)) = 128 * 2 ^ (7 * i) := by rw [show 7 * (i + 1) = 7 + 7 * i from by omega, Nat.pow_add]
    rw [e, acc]
    rw [Nat.add_mul, Nat.one_mul] at h
    omega

theorem acc_lt64 (z : Nat → Nat) {i : Nat} (hi : i ≤ 9) : acc z i < 2 ^ 64 := Nat.lt_of_lt_of_le (acc_lt z i) (Nat.pow_le_pow_right (by decide) (by omega))

theorem or_low {a b s : Nat} (ha : a < 2 ^ s) : a ||| b * 2 ^ s = a + b * 2 ^ s := by
  have := Nat.two_pow_add_eq_or_of_lt ha b
  rw [Nat.or_comm, Nat.mul_comm b, ← this, Nat.add_comm]

theorem mul_lt64 {b i : Nat} (hi : i ≤ 9) (h9 : i = 9 → b ≤ 1) (hb : b < 128) : b * 2 ^ (7 * i) < 2 ^ 64 := by
  by_cases e : i = 9
  · subst e
    have := h9 rfl
    have : b * 2 ^ (7 * 9) ≤ 1 * 2 ^ (7 * 9) := Nat.mul_le_mul_right _ this
    exact Nat.lt_of_le_of_lt this (by decide)
  · have h1 : b * 2 ^ (7 * i) < 128 * 2 ^ (7 * i) := Nat.mul_lt_mul_of_pos_right hb (Nat.two_pow_pos _)
    have h2 : 128 * 2 ^ (7 * i) = 2 ^ (7 * (i + 1)) := by rw [show 7 * (i + 1) = 7 + 7 * i from by omega, Nat.pow_add]
    rw [h2] at h1
    exact Nat.lt_of_lt_of_le h1 (Nat.pow_le_pow_right (by decide) (by omega))

theorem add_lt64 {z : Nat → Nat} {b i : Nat} (hi : i ≤ 9) (h9 : i = 9 → b ≤ 1) (hb : b < 128) : acc z i + b * 2 ^ (7 * i) < 2 ^ 64 := by
  have h1 := acc_lt z i
  by_cases e : i = 9
  · subst e
    have := h9 rfl
    have : b * 2 ^ (7 * 9) ≤ 1 * 2 ^ (7 * 9) := Nat.mul_le_mul_right _ this
    have h3 : (2 : Nat) ^ (7 * 9) + 1 * 2 ^ (7 * 9) = 2 ^ 64 := by decide
    omega
  · have h2 : (b + 1) * 2 ^ (7 * i) ≤ 128 * 2 ^ (7 * i) := Nat.mul_le_mul_right _ (by omega)
    have h3 : 128 * 2 ^ (7 * i) = 2 ^ (7 * (i + 1)) := by rw [show 7 * (i + 1) = 7 + 7 * i from by omega, Nat.pow_add]
    have h4 : (2 : Nat) ^ (7 * (i + 1)) ≤ 2 ^ 64 := Nat.pow_le_pow_right (by decide) (by omega)
    rw [Nat.add_mul, Nat.one_mul] at h2
    omega

/-! ### the model's bit operations -/
theorem wraps_u64 (n : Int) (h₀ : 0 ≤ n) (h₁ : n < 2 ^ 64) : IntKind.u64.wrap n = n := by rw [IntKind.wrap_u64]; omega
theorem or64 {a b : Nat} (ha : a < 2 ^ 64) (hb : b < 2 ^ 64) : bits .or .u64 (a : Int) (b : Int) = ((a ||| b : Nat) : Int) := (bits_nat .u64 64 (by decide) wraps_u64 a b ha hb).2
theorem and127 {a : Nat} (ha : a < 256) : bits .and .u8 (a : Int) 127 = ((a % 128 : Nat) : Int) := by
  have := bits_mask .u8 8 (by decide) wraps_u8 7 (by decide) (a : Int) (by omega) (by omega)
  rw [show ((2 : Int) ^ 7 - 1) = 127 from by decide] at this
  rw [this]
  omega
theorem shl64 {a s : Nat} (h : a * 2 ^ s < 2 ^ 64) : IntKind.u64.wrap ((a : Int) * 2 ^ s) = ((a * 2 ^ s : Nat) : Int) := by
  have e : (a : Int) * 2 ^ s = ((a * 2 ^ s : Nat) : Int) := by rw [Int.natCast_mul, Int.natCast_pow]; rfl
  rw [IntKind.wrap_u64, e]
  generalize a * 2 ^ s = x at h
  omega

/-- n | b << 7i -/
theorem or_step {z : Nat → Nat} {b i : Nat} (hi : i ≤ 9) (h9 : i = 9 → b ≤ 1) (hb : b < 128) : bits .or .u64 ((acc z i : Nat) : Int) (IntKind.u64.wrap ((b : Int) * 2 ^ (7 * i))) = ((acc z i + b * 2 ^ (7 * i) : Nat) : Int) := by
  rw [shl64 (mul_lt64 hi h9 hb), or64 (acc_lt64 z hi) (mul_lt64 hi h9 hb), or_low (acc_lt z i)]

end Go.Proofs.YbulkaljiFmt
