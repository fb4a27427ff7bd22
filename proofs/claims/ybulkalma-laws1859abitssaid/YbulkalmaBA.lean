import Derived.WalkKit
namespace Go.Proofs.Ybulkalma
set_option linter.unusedVariables false
set_option linter.unusedSimpArgs false

/-! ### plain numbers: a 128-bit number in two halves, shifted right -/
/-- The number of the two halves. -/
def num2 (hi lo : Nat) : Nat := hi * 2 ^ 64 + lo
def vs (hi lo s : Nat) : Nat := num2 hi lo / 2 ^ s

theorem num2_lt {hi lo : Nat} (h : hi < 2 ^ 64) (l : lo < 2 ^ 64) : num2 hi lo < 2 ^ 128 := by unfold num2; omega

theorem vs_lt {hi lo s : Nat} (h : hi < 2 ^ 64) (l : lo < 2 ^ 64) (hs : s ≤ 128) : vs hi lo s < 2 ^ (128 - s) := by
  unfold vs
  rw [Nat.div_lt_iff_lt_mul (Nat.two_pow_pos s), ← Nat.pow_add]
  rw [show 128 - s + s = 128 from by omega]
  exact num2_lt h l

theorem vs_hi {hi lo s : Nat} (l : lo < 2 ^ 64) (hs : s ≤ 64) : vs hi lo s / 2 ^ 64 = hi / 2 ^ s := by
  unfold vs num2
  rw [Nat.div_div_eq_div_mul, Nat.mul_comm (2 ^ s), ← Nat.div_div_eq_div_mul]
  congr 1
  omega

theorem vs_big {hi lo s : Nat} (l : lo < 2 ^ 64) (hs : 64 ≤ s) : vs hi lo s = hi / 2 ^ (s - 64) := by
  unfold vs num2
  rw [show s = 64 + (s - 64) from by omega, Nat.pow_add, ← Nat.div_div_eq_div_mul]
  rw [show 64 + (s - 64) - 64 = s - 64 from by omega]
  congr 1
  omega

/-- lo >> s | hi << (64 - s) -/
theorem vs_lo {hi lo s : Nat} (h : hi < 2 ^ 64) (l : lo < 2 ^ 64) (hs : s < 64) : (lo / 2 ^ s) ||| (hi * 2 ^ (64 - s) % 2 ^ 64) = vs hi lo s % 2 ^ 64 := by
  have hp : (2 : Nat) ^ 64 = 2 ^ (64 - s) * 2 ^ s := by rw [← Nat.pow_add]; congr 1; omega
  have e1 : vs hi lo s = hi * 2 ^ (64 - s) + lo / 2 ^ s := by
    unfold vs num2
    rw [hp, ← Nat.mul_assoc, Nat.add_comm, Nat.add_mul_div_right _ _ (Nat.two_pow_pos s), Nat.add_comm]
  have hl : lo / 2 ^ s < 2 ^ (64 - s) := by
    rw [Nat.div_lt_iff_lt_mul (Nat.two_pow_pos s), ← hp]; exact l
  have e2 : hi * 2 ^ (64 - s) % 2 ^ 64 = 2 ^ (64 - s) * (hi % 2 ^ s) := by
    rw [hp, Nat.mul_comm hi, Nat.mul_mod_mul_left]
  rw [e1, e2, Nat.or_comm, ← Nat.two_pow_add_eq_or_of_lt hl]
  have hm : hi % 2 ^ s < 2 ^ s := Nat.mod_lt _ (Nat.two_pow_pos s)
  have key : 2 ^ (64 - s) * (hi % 2 ^ s) + 2 ^ (64 - s) ≤ 2 ^ (64 - s) * 2 ^ s := by
    have := Nat.mul_le_mul_left (2 ^ (64 - s)) (show hi % 2 ^ s + 1 ≤ 2 ^ s from hm)
    rw [Nat.mul_add, Nat.mul_one] at this
    exact this
  have hlt : 2 ^ (64 - s) * (hi % 2 ^ s) + lo / 2 ^ s < 2 ^ 64 := by
    rw [hp]
    exact Nat.lt_of_lt_of_le (Nat.add_lt_add_left hl _) key
  have hl2 : lo / 2 ^ s < 2 ^ 64 := Nat.lt_of_le_of_lt (Nat.div_le_self _ _) l
  rw [Nat.add_mod, e2, Nat.mod_eq_of_lt hl2, Nat.mod_eq_of_lt hlt]

theorem bit_lo {hi lo j : Nat} (hj : j < 64) : num2 hi lo / 2 ^ j % 2 = lo / 2 ^ j % 2 := by
  have hp : (2 : Nat) ^ 64 = 2 * 2 ^ (63 - j) * 2 ^ j := by rw [Nat.mul_comm 2, ← Nat.pow_succ, ← Nat.pow_add]; congr 1; omega
  unfold num2
  rw [hp, ← Nat.mul_assoc, Nat.add_comm, Nat.add_mul_div_right _ _ (Nat.two_pow_pos j), Nat.mul_left_comm, Nat.add_mul_mod_self_left]

theorem bit_hi {hi lo j : Nat} (l : lo < 2 ^ 64) (hj : 64 ≤ j) : num2 hi lo / 2 ^ j % 2 = hi / 2 ^ (j - 64) % 2 := by
  have := vs_big (hi := hi) l hj
  unfold vs at this
  rw [this]

theorem vs_bit (hi lo s i : Nat) : vs hi lo s / 2 ^ i % 2 = num2 hi lo / 2 ^ (i + s) % 2 := by
  unfold vs
  rw [Nat.div_div_eq_div_mul, ← Nat.pow_add, Nat.add_comm s i]

/-- The model's state behind i rounds. -/
def mLo (hi lo s i : Nat) : Nat := vs hi lo s % 2 ^ i % 2 ^ 64
def mHi (hi lo s i : Nat) : Nat := vs hi lo s % 2 ^ i / 2 ^ 64

theorem m_zero (hi lo s : Nat) : mLo hi lo s 0 = 0 ∧ mHi hi lo s 0 = 0 := by simp [mLo, mHi, Nat.mod_one]

theorem mod_step (V i : Nat) : V % 2 ^ (i + 1) = V % 2 ^ i + 2 ^ i * (V / 2 ^ i % 2) := Nat.mod_pow_succ

theorem m_skip {hi lo s i : Nat} (hb : num2 hi lo / 2 ^ (i + s) % 2 = 0) : mLo hi lo s (i + 1) = mLo hi lo s i ∧ mHi hi lo s (i + 1) = mHi hi lo s i := by
  rw [← vs_bit] at hb
  unfold mLo mHi
  rw [mod_step (vs hi lo s) i, hb, Nat.mul_zero, Nat.add_zero]
  exact ⟨rfl, rfl⟩

theorem or_add {x i : Nat} (h : x < 2 ^ i) : x ||| 2 ^ i = x + 2 ^ i := by
  have := Nat.two_pow_add_eq_or_of_lt h 1
  rw [Nat.mul_one] at this
  rw [Nat.or_comm, ← this, Nat.add_comm]

theorem m_low {hi lo s i : Nat} (hi64 : i < 64) (hb : num2 hi lo / 2 ^ (i + s) % 2 = 1) : mLo hi lo s i ||| 2 ^ i = mLo hi lo s (i + 1) ∧ mHi hi lo s (i + 1) = mHi hi lo s i := by
  rw [← vs_bit] at hb
  unfold mLo mHi
  rw [mod_step (vs hi lo s) i, hb, Nat.mul_one]
  have hlt : vs hi lo s % 2 ^ i < 2 ^ i := Nat.mod_lt _ (Nat.two_pow_pos i)
  generalize vs hi lo s % 2 ^ i = x at hlt
  have hp : (2 : Nat) ^ i * 2 ≤ 2 ^ 64 := by rw [← Nat.pow_succ]; exact Nat.pow_le_pow_right (by decide) hi64
  generalize (2 : Nat) ^ 64 = W at hp
  have h1 : x < W := by omega
  have h2 : x + 2 ^ i < W := by omega
  rw [Nat.mod_eq_of_lt h1, Nat.mod_eq_of_lt h2, Nat.div_eq_of_lt h1, Nat.div_eq_of_lt h2]
  exact ⟨or_add hlt, rfl⟩

theorem m_high {hi lo s i : Nat} (hi64 : 64 ≤ i) (hb : num2 hi lo / 2 ^ (i + s) % 2 = 1) : mHi hi lo s i ||| 2 ^ (i - 64) = mHi hi lo s (i + 1) ∧ mLo hi lo s (i + 1) = mLo hi lo s i := by
  rw [← vs_bit] at hb
  unfold mLo mHi
  rw [mod_step (vs hi lo s) i, hb, Nat.mul_one]
  have hlt : vs hi lo s % 2 ^ i < 2 ^ i := Nat.mod_lt _ (Nat.two_pow_pos i)
  have hp : (2 : Nat) ^ i = 2 ^ (i - 64) * 2 ^ 64 := by rw [← Nat.pow_add]; congr 1; omega
  generalize vs hi lo s % 2 ^ i = x at hlt
  rw [hp] at hlt ⊢
  have hW : 0 < (2 : Nat) ^ 64 := Nat.two_pow_pos 64
  generalize (2 : Nat) ^ 64 = W at hlt hW
  have hlt2 : x / W < 2 ^ (i - 64) := by rw [Nat.div_lt_iff_lt_mul hW]; exact hlt
  constructor
  · rw [Nat.add_mul_div_right _ _ hW]
    exact or_add hlt2
  · rw [Nat.add_mul_mod_self_right]

/-- Where the bits have run out, the state is the whole number. -/
theorem m_end {hi lo s i : Nat} (h : hi < 2 ^ 64) (l : lo < 2 ^ 64) (hs : s ≤ 128) (hi' : 128 ≤ i + s) : mLo hi lo s i = vs hi lo s % 2 ^ 64 ∧ mHi hi lo s i = vs hi lo s / 2 ^ 64 := by
  have := vs_lt h l hs
  have : vs hi lo s < 2 ^ i := Nat.lt_of_lt_of_le this (Nat.pow_le_pow_right (by decide) (by omega))
  simp [mLo, mHi, Nat.mod_eq_of_lt this]

theorem mLo_lt (hi lo s i : Nat) : mLo hi lo s i < 2 ^ 64 := Nat.mod_lt _ (by decide)
theorem mHi_lt {hi lo s i : Nat} (h : hi < 2 ^ 64) (l : lo < 2 ^ 64) : mHi hi lo s i < 2 ^ 64 := by
  unfold mHi
  have h1 : vs hi lo s % 2 ^ i ≤ vs hi lo s := Nat.mod_le _ _
  have h2 : vs hi lo s ≤ num2 hi lo := Nat.div_le_self _ _
  have := num2_lt h l
  rw [Nat.div_lt_iff_lt_mul (by decide)]
  omega

/-! ### the model's bit operations at 64 bits -/
theorem wraps_u64 (n : Int) (h₀ : 0 ≤ n) (h₁ : n < 2 ^ 64) : IntKind.u64.wrap n = n := by rw [IntKind.wrap_u64]; omega
theorem or64 {a b : Nat} (ha : a < 2 ^ 64) (hb : b < 2 ^ 64) : bits .or .u64 (a : Int) (b : Int) = ((a ||| b : Nat) : Int) := (bits_nat .u64 64 (by decide) wraps_u64 a b ha hb).2
theorem and64_one {a : Nat} (ha : a < 2 ^ 64) : bits .and .u64 (a : Int) 1 = ((a % 2 : Nat) : Int) := by
  have := (bits_nat .u64 64 (by decide) wraps_u64 a 1 ha (by decide)).1
  rw [Nat.and_one_is_mod] at this
  exact this
theorem shl64 (a s : Nat) : IntKind.u64.wrap ((a : Int) * 2 ^ s) = ((a * 2 ^ s % 2 ^ 64 : Nat) : Int) := by
  have e : (a : Int) * 2 ^ s = ((a * 2 ^ s : Nat) : Int) := by rw [Int.natCast_mul, Int.natCast_pow]; rfl
  rw [IntKind.wrap_u64, e]
  generalize a * 2 ^ s = x
  omega

end Go.Proofs.Ybulkalma
