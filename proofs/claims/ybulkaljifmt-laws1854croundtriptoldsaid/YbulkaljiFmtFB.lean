import Derived.Test.YbulkaljiFmtRows
import Derived.Test.YbulkaljiFmtFA
import Derived.Below
namespace Go.Proofs.YbulkaljiFmt
open Go.RowKit
set_option linter.unusedVariables false
set_option linter.unusedSimpArgs false

/-- The bytes of a slice that is not empty. -/
structure Bytes (w : World) (b off len : Nat) (z : Nat → Nat) : Prop where
  cell : ∀ j, j < len → w.cell? ⟨b, off + j, none⟩ = some (.int .u8 (z j))
  lt : ∀ j, z j < 256

/-- A minimal varint ends at byte i0. -/
structure Ends (z : Nat → Nat) (len i0 : Nat) : Prop where
  lt : i0 < len
  last : z i0 < 128
  on : ∀ j, j < i0 → 128 ≤ z j
  nine : i0 ≤ 9
  one : i0 = 9 → z i0 ≤ 1
  min : 0 < i0 → z i0 ≠ 0

/-- What an ended varint says. -/
def val (z : Nat → Nat) (i0 : Nat) : Nat := acc z i0 + z i0 * 2 ^ (7 * i0)

theorem ret3 {a a' b b' c c' : Value} (h1 : a = a') (h2 : b = b') (h3 : c = c') : Ending.returned (.tuple #[a, b, c]) = Ending.returned (.tuple #[a', b', c']) := by rw [h1, h2, h3]
theorem ret2 {a a' b b' : Value} (h1 : a = a') (h2 : b = b') : Ending.returned (.tuple #[a, b]) = Ending.returned (.tuple #[a', b']) := by rw [h1, h2]

theorem acc_step {z : Nat → Nat} {k : Nat} (hk : k < 9) (hz : z k < 256) :
    bits .or .u64 ((acc z k : Nat) : Int) (IntKind.u64.wrap (IntKind.u64.wrap (bits .and .u8 (z k : Int) 127) * 2 ^ (7 * k))) = ((acc z (k + 1) : Nat) : Int) := by
  have hm : z k % 128 < 128 := Nat.mod_lt _ (by decide)
  have e : IntKind.u64.wrap ((z k % 128 : Nat) : Int) = ((z k % 128 : Nat) : Int) := wraps_u64 _ (by omega) (by omega)
  rw [and127 hz, e, or_step (by omega) (by omega) hm]
  rfl

set_option maxRecDepth 100000 in
set_option maxHeartbeats 400000 in
theorem cvar_ok (b off len cap i0 : Nat) (z : Nat → Nat) (w : World) (hm : len ≤ maxLen) (hB : Bytes w b off len z) (hE : Ends z len i0) :
    Calls Ybaf.prog 8 #[.slice (some ⟨b, off, none⟩) len cap] w fun e w' => e = .returned (.tuple #[.int .u64 (val z i0), .int .i64 ((i0 + 1 : Nat) : Int), .bool true]) ∧ w' = w := by
  unfold maxLen at hm
  go_enter Ybaf.func8, Ybaf.ntmps8
  go_wp2_with fail
  go_loop [5, 6] (fun n i => ∃ k : Nat, k ≤ i0 ∧ i = .int .i64 k ∧ n = .int .u64 (acc z k)) (fun _ i => i0 - (intOf i).toNat)
  case atStart => exact ⟨0, Nat.zero_le _, rfl, rfl⟩
  case round =>
    obtain ⟨k, hk, rfl, rfl⟩ := hrel
    have hn := hE.nine
    have hlt := hE.lt
    have hcell := hB.cell k (by omega)
    have hz := hB.lt k
    by_cases hki : k < i0
    · have hon := hE.on k hki
      have h9 : ¬ (9 ≤ (k : Int)) := by omega
      go_wp2
      go_round
      case rel => exact ⟨k + 1, by omega, by go_num, by rw [acc_step (by omega) hz]⟩
      case measure => simp [intOf]; omega
    · obtain rfl : k = i0 := by omega
      have hla := hE.last
      have HV : Hid (bits .or .u64 ((acc z k : Nat) : Int) (IntKind.u64.wrap ((z k : Int) * 2 ^ (7 * k))) = ((val z k : Nat) : Int)) := or_step hE.nine hE.one hE.last
      by_cases h9 : 9 ≤ (k : Int)
      · have h1 := hE.one (by omega)
        have h0 : ((z k : Int) == 0) = false := by have := hE.min (by omega); simp; omega
        go_wp2
        go_ret3
        exact ⟨ret3 (congrArg (Value.int .u64) HV.out) rfl rfl, rfl⟩
      · by_cases hk0 : 0 < k
        · have h0 : ((z k : Int) == 0) = false := by have := hE.min hk0; simp; omega
          go_wp2
          go_ret3
          exact ⟨ret3 (congrArg (Value.int .u64) HV.out) rfl rfl, rfl⟩
        · go_wp2
          go_ret3
          exact ⟨ret3 (congrArg (Value.int .u64) HV.out) rfl rfl, rfl⟩

/-- No minimal varint is there: it is cut short .. -/
structure Cut (z : Nat → Nat) (len : Nat) : Prop where
  few : len ≤ 9
  on : ∀ j, j < len → 128 ≤ z j
/-- .. it is too wide .. -/
structure Wide (z : Nat → Nat) (len : Nat) : Prop where
  many : 9 < len
  on : ∀ j, j < 9 → 128 ≤ z j
  big : 1 < z 9
/-- .. its last byte, i0, is nought. -/
structure Slack (z : Nat → Nat) (len i0 : Nat) : Prop where
  lt : i0 < len
  pos : 0 < i0
  nine : i0 ≤ 9
  on : ∀ j, j < i0 → 128 ≤ z j
  zero : z i0 = 0

theorem kinds (z : Nat → Nat) (len : Nat) : (∃ i0, Ends z len i0) ∨ Cut z len ∨ Wide z len ∨ ∃ i0, Slack z len i0 := by
  have first : ∀ m, (∀ j, j < m → 128 ≤ z j) ∨ ∃ i, i < m ∧ z i < 128 ∧ ∀ j, j < i → 128 ≤ z j := by
    intro m
    induction m with
    | zero => exact Or.inl (fun j hj => by omega)
    | succ m ih =>
      rcases ih with ih | ⟨i, h1, h2, h3⟩
      · by_cases hm : z m < 128
        · exact Or.inr ⟨m, by omega, hm, ih⟩
        · refine Or.inl (fun j hj => ?_)
          by_cases e : j = m
          · subst e; omega
          · exact ih j (by omega)
      · exact Or.inr ⟨i, by omega, h2, h3⟩
  by_cases hl : len ≤ 9
  · rcases first len with h | ⟨i, h1, h2, h3⟩
    · exact Or.inr (Or.inl ⟨hl, h⟩)
    · by_cases hz : 0 < i ∧ z i = 0
      · exact Or.inr (Or.inr (Or.inr ⟨i, h1, hz.1, by omega, h3, hz.2⟩))
      · exact Or.inl ⟨i, h1, h2, h3, by omega, fun e => by omega, fun h e => hz ⟨h, e⟩⟩
  · rcases first 9 with h | ⟨i, h1, h2, h3⟩
    · by_cases hb : 1 < z 9
      · exact Or.inr (Or.inr (Or.inl ⟨by omega, h, hb⟩))
      · by_cases hz : z 9 = 0
        · exact Or.inr (Or.inr (Or.inr ⟨9, by omega, by omega, by omega, h, hz⟩))
        · exact Or.inl ⟨9, by omega, by omega, h, by omega, fun _ => by omega, fun _ => hz⟩
    · by_cases hz : 0 < i ∧ z i = 0
      · exact Or.inr (Or.inr (Or.inr ⟨i, by omega, hz.1, by omega, h3, hz.2⟩))
      · exact Or.inl ⟨i, by omega, h2, h3, by omega, fun e => by omega, fun h e => hz ⟨h, e⟩⟩

set_option maxRecDepth 100000 in
set_option maxHeartbeats 400000 in
theorem cvar_cut (b off len cap : Nat) (z : Nat → Nat) (w : World) (hB : Bytes w b off len z) (hE : Cut z len) :
    Calls Ybaf.prog 8 #[.slice (some ⟨b, off, none⟩) len cap] w fun e w' => e = .returned (.tuple #[.int .u64 0, .int .i64 0, .bool false]) ∧ w' = w := by
  go_enter Ybaf.func8, Ybaf.ntmps8
  go_wp2_with fail
  go_loop [5, 6] (fun n i => ∃ k : Nat, k ≤ len ∧ i = .int .i64 k ∧ n = .int .u64 (acc z k)) (fun _ i => len - (intOf i).toNat)
  case atStart => exact ⟨0, Nat.zero_le _, rfl, rfl⟩
  case round =>
    obtain ⟨k, hk, rfl, rfl⟩ := hrel
    have hn := hE.few
    by_cases hki : k < len
    · have hcell := hB.cell k hki
      have hz := hB.lt k
      have hon := hE.on k hki
      have h9 : ¬ (9 ≤ (k : Int)) := by omega
      go_wp2
      go_round
      case rel => exact ⟨k + 1, by omega, by go_num, by rw [acc_step (by omega) hz]⟩
      case measure => simp [intOf]; omega
    · go_wp2
      go_ret3
      exact ⟨rfl, rfl⟩

/-- An empty slice, nil or not. -/
theorem cvar_empty (a : Option Addr) (cap : Nat) (w : World) :
    Calls Ybaf.prog 8 #[.slice a 0 cap] w fun e w' => e = .returned (.tuple #[.int .u64 0, .int .i64 0, .bool false]) ∧ w' = w := by
  go_enter Ybaf.func8, Ybaf.ntmps8
  go_wp2_with fail
  refine wp_loop_rounds 1 ?_
  rw [rounds_succ]
  go_wp2
  go_ret3
  exact ⟨rfl, rfl⟩

set_option maxRecDepth 100000 in
set_option maxHeartbeats 400000 in
theorem cvar_wide (b off len cap : Nat) (z : Nat → Nat) (w : World) (hm : len ≤ maxLen) (hB : Bytes w b off len z) (hE : Wide z len) :
    Calls Ybaf.prog 8 #[.slice (some ⟨b, off, none⟩) len cap] w fun e w' => e = .returned (.tuple #[.int .u64 0, .int .i64 0, .bool false]) ∧ w' = w := by
  unfold maxLen at hm
  go_enter Ybaf.func8, Ybaf.ntmps8
  go_wp2_with fail
  go_loop [5, 6] (fun n i => ∃ k : Nat, k ≤ 9 ∧ i = .int .i64 k ∧ n = .int .u64 (acc z k)) (fun _ i => 9 - (intOf i).toNat)
  case atStart => exact ⟨0, Nat.zero_le _, rfl, rfl⟩
  case round =>
    obtain ⟨k, hk, rfl, rfl⟩ := hrel
    have hn := hE.many
    have hcell := hB.cell k (by omega)
    have hz := hB.lt k
    by_cases hki : k < 9
    · have hon := hE.on k hki
      have h9 : ¬ (9 ≤ (k : Int)) := by omega
      go_wp2
      go_round
      case rel => exact ⟨k + 1, by omega, by go_num, by rw [acc_step (by omega) hz]⟩
      case measure => simp [intOf]; omega
    · obtain rfl : k = 9 := by omega
      have hb := hE.big
      go_wp2
      go_ret3
      exact ⟨rfl, rfl⟩

set_option maxRecDepth 100000 in
set_option maxHeartbeats 400000 in
theorem cvar_slack (b off len cap i0 : Nat) (z : Nat → Nat) (w : World) (hm : len ≤ maxLen) (hB : Bytes w b off len z) (hE : Slack z len i0) :
    Calls Ybaf.prog 8 #[.slice (some ⟨b, off, none⟩) len cap] w fun e w' => e = .returned (.tuple #[.int .u64 0, .int .i64 0, .bool false]) ∧ w' = w := by
  unfold maxLen at hm
  go_enter Ybaf.func8, Ybaf.ntmps8
  go_wp2_with fail
  go_loop [5, 6] (fun n i => ∃ k : Nat, k ≤ i0 ∧ i = .int .i64 k ∧ n = .int .u64 (acc z k)) (fun _ i => i0 - (intOf i).toNat)
  case atStart => exact ⟨0, Nat.zero_le _, rfl, rfl⟩
  case round =>
    obtain ⟨k, hk, rfl, rfl⟩ := hrel
    have hn := hE.nine
    have hlt := hE.lt
    have hcell := hB.cell k (by omega)
    have hz := hB.lt k
    by_cases hki : k < i0
    · have hon := hE.on k hki
      have h9 : ¬ (9 ≤ (k : Int)) := by omega
      go_wp2
      go_round
      case rel => exact ⟨k + 1, by omega, by go_num, by rw [acc_step (by omega) hz]⟩
      case measure => simp [intOf]; omega
    · obtain rfl : k = i0 := by omega
      have hp := hE.pos
      have hz0 := hE.zero
      rw [hz0] at hcell
      clear hz0
      by_cases h9 : 9 ≤ (k : Int)
      · go_wp2
        go_ret3
        exact ⟨rfl, rfl⟩
      · go_wp2
        go_ret3
        exact ⟨rfl, rfl⟩

theorem or_nine {z : Nat → Nat} (h1 : z 9 ≤ 1) : bits .or .u64 ((acc z 9 : Nat) : Int) ((z 9 : Int) * 9223372036854775808) = ((val z 9 : Nat) : Int) := by
  have h := or_step (z := z) (b := z 9) (i := 9) (by omega) (fun _ => h1) (by omega)
  have e : IntKind.u64.wrap ((z 9 : Int) * 2 ^ (7 * 9)) = (z 9 : Int) * 9223372036854775808 := by
    rw [show ((2 : Int) ^ (7 * 9)) = 9223372036854775808 from by decide, IntKind.wrap_u64]
    omega
  rw [e] at h
  exact h

/-! ### encoding/binary.Uvarint -/
set_option maxRecDepth 100000 in
set_option maxHeartbeats 400000 in
theorem uv_ok (b off len cap i0 : Nat) (z : Nat → Nat) (w : World) (hm : len ≤ maxLen) (hB : Bytes w b off len z) (hlt : i0 < len) (hla : z i0 < 128) (hon : ∀ j, j < i0 → 128 ≤ z j) (hn : i0 ≤ 9) (h1 : i0 = 9 → z i0 ≤ 1) :
    Calls Ybaf.prog 11 #[.slice (some ⟨b, off, none⟩) len cap] w fun e w' => e = .returned (.tuple #[.int .u64 (val z i0), .int .i64 ((i0 + 1 : Nat) : Int)]) ∧ w' = w := by
  unfold maxLen at hm
  go_enter Ybaf.func11, Ybaf.ntmps11
  go_wp2_with fail
  go_loop [4, 5, 10] (fun n s i => ∃ k : Nat, k ≤ i0 ∧ i = .int .i64 k ∧ n = .int .u64 (acc z k) ∧ s = .int .u64 ((7 * k : Nat) : Int)) (fun _ _ i => i0 - (intOf i).toNat)
  case atStart => exact ⟨0, Nat.zero_le _, rfl, rfl, rfl⟩
  case round =>
    obtain ⟨k, hk, rfl, rfl, rfl⟩ := hrel
    have hcell := hB.cell k (by omega)
    have hz := hB.lt k
    have h10 : ((k : Int) == 10) = false := by simp; omega
    by_cases hki : k < i0
    · have honk := hon k hki
      go_wp2
      go_round
      case rel => exact ⟨k + 1, by omega, by go_num, by rw [acc_step (by omega) hz], by go_num⟩
      case measure => simp [intOf]; omega
    · obtain rfl : k = i0 := by omega
      have HV : Hid (bits .or .u64 ((acc z k : Nat) : Int) (IntKind.u64.wrap ((z k : Int) * 2 ^ (7 * k))) = ((val z k : Nat) : Int)) := or_step hn h1 hla
      by_cases h9 : k = 9
      · subst h9
        have h1' := h1 rfl
        have HV9 : Hid (bits .or .u64 ((acc z 9 : Nat) : Int) ((z 9 : Int) * 9223372036854775808) = ((val z 9 : Nat) : Int)) := or_nine h1'
        clear h1 HV
        go_wp2
        go_ret2
        exact ⟨ret2 (congrArg (Value.int .u64) HV9.out) rfl, rfl⟩
      · have h9' : ((k : Int) == 9) = false := by simp; omega
        clear h9
        go_wp2
        go_ret2
        exact ⟨ret2 (congrArg (Value.int .u64) HV.out) rfl, rfl⟩

set_option maxRecDepth 100000 in
set_option maxHeartbeats 400000 in
theorem uv_cut (b off len cap : Nat) (z : Nat → Nat) (w : World) (hB : Bytes w b off len z) (few : len ≤ 10) (on : ∀ j, j < len → 128 ≤ z j) :
    Calls Ybaf.prog 11 #[.slice (some ⟨b, off, none⟩) len cap] w fun e w' => e = .returned (.tuple #[.int .u64 0, .int .i64 0]) ∧ w' = w := by
  go_enter Ybaf.func11, Ybaf.ntmps11
  go_wp2_with fail
  go_loop [4, 5, 10] (fun n s i => ∃ (k : Nat) (x : Int), k ≤ len ∧ i = .int .i64 k ∧ n = .int .u64 x ∧ s = .int .u64 ((7 * k : Nat) : Int)) (fun _ _ i => len - (intOf i).toNat)
  case atStart => exact ⟨0, 0, Nat.zero_le _, rfl, rfl, rfl⟩
  case round =>
    obtain ⟨k, x, hk, rfl, rfl, rfl⟩ := hrel
    have h10 : k < 10 → ((k : Int) == 10) = false := by intro h; simp; omega
    by_cases hki : k < len
    · have hcell := hB.cell k hki
      have hz := hB.lt k
      have honk := on k hki
      have h10' := h10 (by omega)
      clear h10
      go_wp2
      go_round
      case rel => exact ⟨k + 1, _, by omega, by go_num, rfl, by go_num⟩
      case measure => simp [intOf]; omega
    · clear h10
      go_wp2
      go_ret2
      exact ⟨rfl, rfl⟩

theorem uv_empty (a : Option Addr) (cap : Nat) (w : World) :
    Calls Ybaf.prog 11 #[.slice a 0 cap] w fun e w' => e = .returned (.tuple #[.int .u64 0, .int .i64 0]) ∧ w' = w := by
  go_enter Ybaf.func11, Ybaf.ntmps11
  go_wp2_with fail
  refine wp_loop_rounds 1 ?_
  rw [rounds_succ]
  go_wp2
  go_ret2
  exact ⟨rfl, rfl⟩

set_option maxRecDepth 100000 in
set_option maxHeartbeats 400000 in
theorem uv_wide (b off len cap : Nat) (z : Nat → Nat) (w : World) (hm : len ≤ maxLen) (hB : Bytes w b off len z) (hE : Wide z len) :
    Calls Ybaf.prog 11 #[.slice (some ⟨b, off, none⟩) len cap] w fun e w' => ∃ k : Int, k ≤ 0 ∧ -11 ≤ k ∧ e = .returned (.tuple #[.int .u64 0, .int .i64 k]) ∧ w' = w := by
  by_cases h128 : z 9 < 128
  · unfold maxLen at hm
    go_enter Ybaf.func11, Ybaf.ntmps11
    go_wp2_with fail
    go_loop [4, 5, 10] (fun n s i => ∃ (k : Nat) (x : Int), k ≤ 9 ∧ i = .int .i64 k ∧ n = .int .u64 x ∧ s = .int .u64 ((7 * k : Nat) : Int)) (fun _ _ i => 9 - (intOf i).toNat)
    case atStart => exact ⟨0, 0, Nat.zero_le _, rfl, rfl, rfl⟩
    case round =>
      obtain ⟨k, x, hk, rfl, rfl, rfl⟩ := hrel
      have hn := hE.many
      have hcell := hB.cell k (by omega)
      have hz := hB.lt k
      by_cases hki : k < 9
      · have h10 : ((k : Int) == 10) = false := by simp; omega
        have honk := hE.on k hki
        go_wp2
        go_round
        case rel => exact ⟨k + 1, _, by omega, by go_num, rfl, by go_num⟩
        case measure => simp [intOf]; omega
      · obtain rfl : k = 9 := by omega
        have hb := hE.big
        go_wp2
        go_ret2
        exact ⟨_, by omega, by omega, rfl, rfl⟩
  · by_cases hl : len ≤ 10
    · refine (uv_cut b off len cap z w hB hl (fun j hj => ?_)).mono ?_
      · by_cases e : j < 9
        · exact hE.on j e
        · have : j = 9 := by omega
          subst this; omega
      · rintro e w' ⟨rfl, rfl⟩
        exact ⟨0, by omega, by omega, rfl, rfl⟩
    · unfold maxLen at hm
      go_enter Ybaf.func11, Ybaf.ntmps11
      go_wp2_with fail
      go_loop [4, 5, 10] (fun n s i => ∃ (k : Nat) (x : Int), k ≤ 10 ∧ i = .int .i64 k ∧ n = .int .u64 x ∧ s = .int .u64 ((7 * k : Nat) : Int)) (fun _ _ i => 10 - (intOf i).toNat)
      case atStart => exact ⟨0, 0, Nat.zero_le _, rfl, rfl, rfl⟩
      case round =>
        obtain ⟨k, x, hk, rfl, rfl, rfl⟩ := hrel
        have hcell := hB.cell k (by omega)
        have hz := hB.lt k
        by_cases hki : k < 10
        · have h10 : ((k : Int) == 10) = false := by simp; omega
          have honk : 128 ≤ z k := by
            by_cases e : k < 9
            · exact hE.on k e
            · have : k = 9 := by omega
              subst this; omega
          go_wp2
          go_round
          case rel => exact ⟨k + 1, _, by omega, by go_num, rfl, by go_num⟩
          case measure => simp [intOf]; omega
        · obtain rfl : k = 10 := by omega
          go_wp2
          go_ret2
          exact ⟨_, by omega, by omega, rfl, rfl⟩

end Go.Proofs.YbulkaljiFmt
