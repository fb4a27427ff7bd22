import Derived.Test.YbulkaljiFmtFC
namespace Go.Proofs.YbulkaljiFmt
open Go.RowKit Go.Extern.Stop Go.Stop Go.Extern
set_option linter.unusedVariables false
set_option linter.unusedSimpArgs false

theorem uo_ok (b off len cap i0 : Nat) (z : Nat → Nat) (w : World) (hm : len ≤ maxLen) (hlc : len ≤ cap) (hB : Bytes w b off len z) (hE : Ends z len i0) :
    Calls Ybaf.prog 9 #[.slice (some ⟨b, off, none⟩) len cap] w fun e w' => e = .returned (.tuple #[.int .u64 (val z i0), .slice (some ⟨b, cutO off cap (i0 + 1), none⟩) (len - (i0 + 1)) (cap - (i0 + 1)), .nilIface]) ∧ Below w.heap.size w w' := by
  match i0, hE with
  | 0, hE => exact uo_zero b off len cap z w hm hlc hB hE
  | 1, hE => exact uo_one b off len cap z w hm hlc hB hE
  | i + 2, hE => exact uo_many b off len cap (i + 2) z w hm hlc hB hE (by omega)

/-! ### wholeName -/
def BadWn (w : World) (e : Ending) (w' : World) : Prop := ∃ k, e = .returned (.tuple #[.slice none 0 0, .slice none 0 0, .iface 43 (.pointer (some ⟨k, 0, none⟩))]) ∧ Below w.heap.size w w'

set_option maxRecDepth 100000 in
set_option maxHeartbeats 400000 in
theorem wn_bad (a : Option Addr) (len cap : Nat) (w : World) (h : Calls Ybaf.prog 9 #[.slice a len cap] w (BadUo w)) : Calls Ybaf.prog 6 #[.slice a len cap] w (BadWn w) := by
  have H : Hid (Calls Ybaf.prog 9 #[.slice a len cap] w (BadUo w)) := h
  clear h
  unfold BadWn
  go_enter Ybaf.func6, Ybaf.ntmps6
  go_wp2_with fail
  refine (show Calls _ _ _ _ _ from H.out).mono ?_
  rintro e w' ⟨k, rfl, hb⟩
  go_wp2
  go_ret3
  exact ⟨_, rfl, hb⟩

set_option maxRecDepth 100000 in
set_option maxHeartbeats 400000 in
theorem wn_ok (b off len cap i0 : Nat) (z : Nat → Nat) (w : World) (hm : len ≤ maxLen) (hlc : len ≤ cap) (hB : Bytes w b off len z) (hE : Ends z len i0) (hn : val z i0 ≤ len - (i0 + 1)) :
    Calls Ybaf.prog 6 #[.slice (some ⟨b, off, none⟩) len cap] w fun e w' => e = .returned (.tuple #[.slice (some ⟨b, cutO off cap (i0 + 1), none⟩) (val z i0) (val z i0), .slice (some ⟨b, cutO (cutO off cap (i0 + 1)) (cap - (i0 + 1)) (val z i0), none⟩) (len - (i0 + 1) - val z i0) (cap - (i0 + 1) - val z i0), .nilIface]) ∧ Below w.heap.size w w' := by
  have HU : Hid (Calls Ybaf.prog 9 #[.slice (some ⟨b, off, none⟩) len cap] w fun e w' => e = .returned (.tuple #[.int .u64 (val z i0), .slice (some ⟨b, cutO off cap (i0 + 1), none⟩) (len - (i0 + 1)) (cap - (i0 + 1)), .nilIface]) ∧ Below w.heap.size w w') := uo_ok b off len cap i0 z w hm hlc hB hE
  have hl := hE.lt
  have h1 : len - (i0 + 1) ≤ cap - (i0 + 1) := by omega
  have h2 : len - (i0 + 1) ≤ 9223372036854775807 := by unfold maxLen at hm; omega
  clear hE hB
  generalize cutO off cap (i0 + 1) = o1 at *
  generalize len - (i0 + 1) = l1 at *
  generalize cap - (i0 + 1) = c1 at *
  generalize val z i0 = n at *
  clear hl hlc hm
  go_enter Ybaf.func6, Ybaf.ntmps6
  go_wp2_with fail
  refine (show Calls _ _ _ _ _ from HU.out).mono ?_
  rintro e w1 ⟨rfl, hb⟩
  go_wp2_with fail
  go_quiet (fail)
  simp only [cut_eq]
  go_wp2
  go_ret3
  exact ⟨rfl, below_drewN hb _⟩

set_option maxRecDepth 100000 in
set_option maxHeartbeats 400000 in
theorem wn_long (F : Interp) (b off len cap i0 : Nat) (z : Nat → Nat) (w : World) (hF : F.answers w.tape) (hm : len ≤ maxLen) (hlc : len ≤ cap) (hB : Bytes w b off len z) (hE : Ends z len i0) (hn : len - (i0 + 1) < val z i0) :
    Calls Ybaf.prog 6 #[.slice (some ⟨b, off, none⟩) len cap] w (BadWn w) := by
  have HU : Hid (Calls Ybaf.prog 9 #[.slice (some ⟨b, off, none⟩) len cap] w fun e w' => e = .returned (.tuple #[.int .u64 (val z i0), .slice (some ⟨b, cutO off cap (i0 + 1), none⟩) (len - (i0 + 1)) (cap - (i0 + 1)), .nilIface]) ∧ Below w.heap.size w w') := uo_ok b off len cap i0 z w hm hlc hB hE
  have hl := hE.lt
  have h1 : len - (i0 + 1) ≤ cap - (i0 + 1) := by omega
  have h2 : len - (i0 + 1) ≤ 9223372036854775807 := by unfold maxLen at hm; omega
  clear hE hB
  generalize cutO off cap (i0 + 1) = o1 at *
  generalize len - (i0 + 1) = l1 at *
  generalize cap - (i0 + 1) = c1 at *
  generalize val z i0 = n at *
  clear hl hlc hm
  unfold BadWn
  go_enter Ybaf.func6, Ybaf.ntmps6
  go_wp2_with fail
  refine (show Calls _ _ _ _ _ from HU.out).mono ?_
  rintro e w1 ⟨rfl, hb⟩
  have hF1 : F.answers w1.tape := by rw [hb.tape]; exact hF
  go_wp2_with fail
  refine (errA F n l1 _ _ (by exact hF1) (by go_simp) (by go_simp)).mono ?_
  rintro e w2 ⟨k, rfl, hb2⟩
  go_wp2
  go_ret3
  exact ⟨_, rfl, (hb.alloc hb.size _).trans (hb2.mono (by have := hb.size; simp; omega))⟩

/-! ### zzs1854ceq -/
theorem ceq_empty (a a' : Option Addr) (c c' : Nat) (w : World) : Calls Ybaf.prog 7 #[.slice a 0 c, .slice a' 0 c'] w fun e w' => e = .returned (.bool true) ∧ Below w.heap.size w w' := by
  go_enter Ybaf.func7, Ybaf.ntmps7
  go_wp2_with fail
  refine wp_loop_rounds 1 ?_
  rw [rounds_succ]
  go_wp2
  go_ret
  exact ⟨rfl, Below.refl _ _⟩

set_option maxRecDepth 100000 in
set_option maxHeartbeats 400000 in
theorem ceq_same (b o c b' o' c' len : Nat) (z : Nat → Nat) (w : World) (hm : len ≤ maxLen) (hB : Bytes w b o len z) (hB' : Bytes w b' o' len z) :
    Calls Ybaf.prog 7 #[.slice (some ⟨b, o, none⟩) len c, .slice (some ⟨b', o', none⟩) len c'] w fun e w' => e = .returned (.bool true) ∧ Below w.heap.size w w' := by
  unfold maxLen at hm
  go_enter Ybaf.func7, Ybaf.ntmps7
  go_wp2_with fail
  go_loopw [5] (fun i wr => ∃ k : Nat, k ≤ len ∧ i = .int .i64 k ∧ Below w.heap.size w wr) (fun i _ => len - (intOf i).toNat)
  case atStart => exact ⟨0, Nat.zero_le _, rfl, Below.refl _ _⟩
  case round =>
    obtain ⟨k, hk, rfl, hb⟩ := hrel
    by_cases hlt : k < len
    · have hc0 := hB.cell k hlt
      have hc1 := hB'.cell k hlt
      have hc : wr.cell? ⟨b, o + k, none⟩ = some (.int .u8 (z k)) := (hb.cell (World.block_lt_of_cell? w _ hc0)).trans hc0
      have hc' : wr.cell? ⟨b', o' + k, none⟩ = some (.int .u8 (z k)) := (hb.cell (World.block_lt_of_cell? w _ hc1)).trans hc1
      have hlt' : (k : Int) < (len : Int) := by omega
      have h0' : (0 : Int) ≤ (k : Int) := by omega
      go_wp2_with fail
      go_quiet (fail)
      go_wp2
      go_roundw
      case rel => exact ⟨k + 1, by omega, by go_num, below_drewN hb _⟩
      case measure => simp [intOf]; omega
    · go_wp2
      go_ret
      exact ⟨rfl, hb⟩

end Go.Proofs.YbulkaljiFmt
