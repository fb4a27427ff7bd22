import Derived.Test.YbulkaljiFmtFB
import Derived.Stop.CallBack
import Derived.Stop.IfaceNil
import Derived.WalkSpells
import Derived.WalkSmall
import Derived.Deep.QuietTactic
import Derived.BigQuiet
import GoSem.ClaimData
namespace Go.Proofs.YbulkaljiFmt
open Go.RowKit Go.Extern.Stop Go.Stop Go.Extern
set_option linter.unusedVariables false
set_option linter.unusedSimpArgs false

/-! ### closed facts on fmt's stop at this dump -/
theorem call13 (args : Array Value) (w : World) : (callFunc 13 args).run Ybaf.prog w = ((FmtStop.errorf #[9, 41] #[26] args).run Ybaf.prog w).andThen fun v w' => .ok (.value v) w' :=
  run_callFunc_extern Ybaf.func13 (by kernel_rfl) (by kernel_rfl) (by kernel_rfl) (by kernel_rfl) args w
theorem guardF (name : String) (w : World) : (FmtStop.guard name).run Ybaf.prog w = .ok () w := by kernel_rfl
def fmtA : ByteArray := ⟨#[97, 32, 110, 97, 109, 101, 32, 111, 102, 32, 37, 100, 32, 98, 121, 116, 101, 115, 32, 119, 104, 101, 114, 101, 32, 37, 100, 32, 97, 114, 101, 32, 108, 101, 102, 116]⟩
theorem fmtA2 (w : World) : (FmtDoors.printed ⟨#[97, 32, 110, 97, 109, 101, 32, 111, 102, 32, 37, 100, 32, 98, 121, 116, 101, 115, 32, 119, 104, 101, 114, 101, 32, 37, 100, 32, 97, 114, 101, 32, 108, 101, 102, 116]⟩ 2).run Ybaf.prog w = .ok [(0, 100, false), (1, 100, false)] w := by kernel_rfl
theorem fmtB2 (w : World) : (FmtDoors.printed ⟨#[37, 100, 32, 119, 114, 105, 116, 116, 101, 110, 32, 105, 110, 32, 37, 100, 32, 98, 121, 116, 101, 115, 44, 32, 109, 111, 114, 101, 32, 116, 104, 97, 110, 32, 105, 116, 32, 116, 97, 107, 101, 115]⟩ 2).run Ybaf.prog w = .ok [(0, 100, false), (1, 100, false)] w := by kernel_rfl
def shape24 : List UInt8 := [9, 6, 0, 0, 0, 0, 0, 0, 0, 117, 105, 110, 116, 54, 52]
def shape3 : List UInt8 := [5, 3, 0, 0, 0, 0, 0, 0, 0, 105, 110, 116]
theorem op24 (name : String) (x : Int) (w : World) : (FmtStop.operand name true 100 false (.iface 24 (.int .u64 x))).run Ybaf.prog w = .ok (shape24, Go.Extern.Stop.digits 8 (x % 2 ^ 64).toNat) w := by kernel_rfl
theorem op3 (name : String) (x : Int) (w : World) : (FmtStop.operand name true 100 false (.iface 3 (.int .i64 x))).run Ybaf.prog w = .ok (shape3, Go.Extern.Stop.digits 8 (x % 2 ^ 64).toNat) w := by kernel_rfl
theorem ptr43 (w : World) : (FmtStop.ptrTo "errors.errorString").run Ybaf.prog w = .ok 43 w := by kernel_rfl
theorem elem43 (w : World) : (elemOf 43).run Ybaf.prog w = .ok 45 w := by kernel_rfl
attribute [local go_sem] call13 guardF fmtA2 fmtB2 op24 op3 ptr43 elem43

theorem new_any (s : ByteArray) (w : World) : Calls Ybaf.prog 12 #[.string s] w fun e w' => e = .returned (.iface 43 (.pointer (some ⟨w.heap.size, 0, none⟩))) ∧ w' = w.alloc (.cells #[.string s] 45) := by
  go_enter Ybaf.func12, Ybaf.ntmps12
  go_wp2
  go_ret
  exact ⟨rfl, rfl⟩

set_option maxRecDepth 100000 in
set_option maxHeartbeats 400000 in
theorem errA (F : Interp) (n m : Int) (g : Nat) (w : World) (hF : F.answers w.tape) (h0 : w.cell? ⟨g, 0, none⟩ = some (.iface 24 (.int .u64 n))) (h1 : w.cell? ⟨g, 1, none⟩ = some (.iface 3 (.int .i64 m))) :
    Calls Ybaf.prog 10 #[.string ⟨#[97, 32, 110, 97, 109, 101, 32, 111, 102, 32, 37, 100, 32, 98, 121, 116, 101, 115, 32, 119, 104, 101, 114, 101, 32, 37, 100, 32, 97, 114, 101, 32, 108, 101, 102, 116]⟩, .slice (some ⟨g, 0, none⟩) 2 2] w
      fun e w' => ∃ k, e = .returned (.iface 43 (.pointer (some ⟨k, 0, none⟩))) ∧ Below w.heap.size w w' := by
  have hF' := answers_open hF
  go_enter Ybaf.func10, Ybaf.ntmps10
  go_wp2
  go_ret
  exact ⟨_, rfl, ((Below.refl _ _).alloc (Nat.le_refl _) _).drew⟩

set_option maxRecDepth 100000 in
set_option maxHeartbeats 400000 in
theorem errB (F : Interp) (n m : Int) (g : Nat) (w : World) (hF : F.answers w.tape) (h0 : w.cell? ⟨g, 0, none⟩ = some (.iface 24 (.int .u64 n))) (h1 : w.cell? ⟨g, 1, none⟩ = some (.iface 3 (.int .i64 m))) :
    Calls Ybaf.prog 10 #[.string ⟨#[37, 100, 32, 119, 114, 105, 116, 116, 101, 110, 32, 105, 110, 32, 37, 100, 32, 98, 121, 116, 101, 115, 44, 32, 109, 111, 114, 101, 32, 116, 104, 97, 110, 32, 105, 116, 32, 116, 97, 107, 101, 115]⟩, .slice (some ⟨g, 0, none⟩) 2 2] w
      fun e w' => ∃ k, e = .returned (.iface 43 (.pointer (some ⟨k, 0, none⟩))) ∧ Below w.heap.size w w' := by
  have hF' := answers_open hF
  go_enter Ybaf.func10, Ybaf.ntmps10
  go_wp2
  go_ret
  exact ⟨_, rfl, ((Below.refl _ _).alloc (Nat.le_refl _) _).drew⟩

/-! ### uvarintOf -/
/-- Where a slice of capacity cap, cut from l on, begins. -/
def cutO (off cap l : Nat) : Nat := if cap = l then off else off + l

theorem cut_eq (b off cap l x y : Nat) : Value.slice (if cap = l then some ⟨b, off, none⟩ else some ⟨b, off + l, none⟩) x y = .slice (some ⟨b, cutO off cap l, none⟩) x y := by
  unfold cutO
  split <;> rfl
theorem val_zero (z : Nat → Nat) : val z 0 = z 0 := by simp [val, acc]

set_option maxRecDepth 100000 in
set_option maxHeartbeats 400000 in
theorem uo_zero (b off len cap : Nat) (z : Nat → Nat) (w : World) (hm : len ≤ maxLen) (hlc : len ≤ cap) (hB : Bytes w b off len z) (hE : Ends z len 0) :
    Calls Ybaf.prog 9 #[.slice (some ⟨b, off, none⟩) len cap] w fun e w' => e = .returned (.tuple #[.int .u64 (val z 0), .slice (some ⟨b, cutO off cap 1, none⟩) (len - 1) (cap - 1), .nilIface]) ∧ Below w.heap.size w w' := by
  have hc : w.cell? ⟨b, off, none⟩ = some (.int .u8 (z 0)) := hB.cell 0 hE.lt
  have hz := hB.lt 0
  have hla := hE.last
  have hl := hE.lt
  unfold maxLen at hm
  go_enter Ybaf.func9, Ybaf.ntmps9
  go_wp2_with fail
  go_quiet (fail)
  simp only [cut_eq]
  go_wp2
  go_ret3
  exact ⟨ret3 (congrArg (fun x : Nat => Value.int .u64 (x : Int)) (val_zero z).symm) rfl rfl, below_drewN (Below.refl _ _) _⟩

theorem val_one {z : Nat → Nat} (hz : z 0 < 256) (h1 : z 1 < 128) : bits .or .u64 (IntKind.u64.wrap (bits .and .u8 (z 0 : Int) 127)) ((z 1 : Int) * 128) = ((val z 1 : Nat) : Int) := by
  have hm : z 0 % 128 < 128 := Nat.mod_lt _ (by decide)
  have e : IntKind.u64.wrap ((z 0 % 128 : Nat) : Int) = ((z 0 % 128 : Nat) : Int) := wraps_u64 _ (by omega) (by omega)
  rw [and127 hz, e]
  have h := or_step (z := z) (b := z 1) (i := 1) (by omega) (by omega) h1
  have e2 : IntKind.u64.wrap ((z 1 : Int) * 2 ^ (7 * 1)) = (z 1 : Int) * 128 := by
    rw [show ((2 : Int) ^ (7 * 1)) = 128 from by decide, IntKind.wrap_u64]
    omega
  rw [e2] at h
  have e3 : acc z 1 = z 0 % 128 := by simp [acc]
  rw [e3] at h
  rw [h, val, e3]

set_option maxRecDepth 100000 in
set_option maxHeartbeats 400000 in
theorem uo_one (b off len cap : Nat) (z : Nat → Nat) (w : World) (hm : len ≤ maxLen) (hlc : len ≤ cap) (hB : Bytes w b off len z) (hE : Ends z len 1) :
    Calls Ybaf.prog 9 #[.slice (some ⟨b, off, none⟩) len cap] w fun e w' => e = .returned (.tuple #[.int .u64 (val z 1), .slice (some ⟨b, cutO off cap 2, none⟩) (len - 2) (cap - 2), .nilIface]) ∧ Below w.heap.size w w' := by
  have hl := hE.lt
  have hc : w.cell? ⟨b, off, none⟩ = some (.int .u8 (z 0)) := hB.cell 0 (by omega)
  have hc1 : w.cell? ⟨b, off + 1, none⟩ = some (.int .u8 (z 1)) := hB.cell 1 hE.lt
  have hz := hB.lt 0
  have hz1 := hB.lt 1
  have hla := hE.last
  have hon := hE.on 0 (by omega)
  have hne : ((z 1 : Int) != 0) = true := by have := hE.min (by omega); simp; omega
  have HV : Hid (bits .or .u64 (IntKind.u64.wrap (bits .and .u8 (z 0 : Int) 127)) ((z 1 : Int) * 128) = ((val z 1 : Nat) : Int)) := val_one hz hla
  unfold maxLen at hm
  go_enter Ybaf.func9, Ybaf.ntmps9
  go_wp2_with fail
  go_quiet (fail)
  simp only [cut_eq]
  go_wp2
  go_ret3
  exact ⟨ret3 (congrArg (Value.int .u64) HV.out) rfl rfl, below_drewN (Below.refl _ _) _⟩

set_option maxRecDepth 100000 in
set_option maxHeartbeats 400000 in
theorem uo_many (b off len cap i0 : Nat) (z : Nat → Nat) (w : World) (hm : len ≤ maxLen) (hlc : len ≤ cap) (hB : Bytes w b off len z) (hE : Ends z len i0) (hi : 2 ≤ i0) :
    Calls Ybaf.prog 9 #[.slice (some ⟨b, off, none⟩) len cap] w fun e w' => e = .returned (.tuple #[.int .u64 (val z i0), .slice (some ⟨b, cutO off cap (i0 + 1), none⟩) (len - (i0 + 1)) (cap - (i0 + 1)), .nilIface]) ∧ Below w.heap.size w w' := by
  have hl := hE.lt
  have hc : w.cell? ⟨b, off, none⟩ = some (.int .u8 (z 0)) := hB.cell 0 (by omega)
  have hc1 : w.cell? ⟨b, off + 1, none⟩ = some (.int .u8 (z 1)) := hB.cell 1 (by omega)
  have hci : w.cell? ⟨b, off + i0, none⟩ = some (.int .u8 (z i0)) := hB.cell i0 hE.lt
  have hz := hB.lt 0
  have hz1 := hB.lt 1
  have hon := hE.on 0 (by omega)
  have hon1 := hE.on 1 (by omega)
  have hn := hE.nine
  have hne : ((z i0 : Int) == 0) = false := by have := hE.min (by omega); simp; omega
  have hm' := hm
  unfold maxLen at hm
  go_enter Ybaf.func9, Ybaf.ntmps9
  go_wp2_with fail
  refine (uv_ok b off len cap i0 z _ hm' hB hE.lt hE.last hE.on hE.nine hE.one).mono ?_
  rintro e w' ⟨rfl, rfl⟩
  go_wp2_with fail
  go_quiet (fail)
  simp only [cut_eq]
  go_wp2
  go_ret3
  exact ⟨rfl, below_drewN (Below.refl _ _) _⟩

/-- What uvarintOf gives where no minimal varint stands. -/
def BadUo (w : World) (e : Ending) (w' : World) : Prop := ∃ k, e = .returned (.tuple #[.int .u64 0, .slice none 0 0, .iface 43 (.pointer (some ⟨k, 0, none⟩))]) ∧ Below w.heap.size w w'

set_option maxRecDepth 100000 in
set_option maxHeartbeats 400000 in
theorem uo_empty (a : Option Addr) (cap : Nat) (w : World) : Calls Ybaf.prog 9 #[.slice a 0 cap] w (BadUo w) := by
  unfold BadUo
  go_enter Ybaf.func9, Ybaf.ntmps9
  go_wp2_with fail
  refine (uv_empty a cap _).mono ?_
  rintro e w' ⟨rfl, rfl⟩
  go_wp2
  go_ret3
  exact ⟨_, rfl, (Below.refl _ _).alloc (Nat.le_refl _) _⟩

set_option maxRecDepth 100000 in
set_option maxHeartbeats 400000 in
theorem uo_cut (b off len cap : Nat) (z : Nat → Nat) (w : World) (hB : Bytes w b off len z) (hE : Cut z len) (hpos : 0 < len) : Calls Ybaf.prog 9 #[.slice (some ⟨b, off, none⟩) len cap] w (BadUo w) := by
  unfold BadUo
  have hc : w.cell? ⟨b, off, none⟩ = some (.int .u8 (z 0)) := hB.cell 0 hpos
  have hz := hB.lt 0
  have hon := hE.on 0 hpos
  have hf := hE.few
  by_cases h1 : 1 < len
  · have hc1 : w.cell? ⟨b, off + 1, none⟩ = some (.int .u8 (z 1)) := hB.cell 1 h1
    have hon1 := hE.on 1 h1
    go_enter Ybaf.func9, Ybaf.ntmps9
    go_wp2_with fail
    refine (uv_cut b off len cap z _ hB (by omega) hE.on).mono ?_
    rintro e w' ⟨rfl, rfl⟩
    go_wp2
    go_ret3
    exact ⟨_, rfl, (Below.refl _ _).alloc (Nat.le_refl _) _⟩
  · go_enter Ybaf.func9, Ybaf.ntmps9
    go_wp2_with fail
    refine (uv_cut b off len cap z _ hB (by omega) hE.on).mono ?_
    rintro e w' ⟨rfl, rfl⟩
    go_wp2
    go_ret3
    exact ⟨_, rfl, (Below.refl _ _).alloc (Nat.le_refl _) _⟩

set_option maxRecDepth 100000 in
set_option maxHeartbeats 400000 in
theorem uo_wide (b off len cap : Nat) (z : Nat → Nat) (w : World) (hm : len ≤ maxLen) (hB : Bytes w b off len z) (hE : Wide z len) : Calls Ybaf.prog 9 #[.slice (some ⟨b, off, none⟩) len cap] w (BadUo w) := by
  unfold BadUo
  have hmany := hE.many
  have hc : w.cell? ⟨b, off, none⟩ = some (.int .u8 (z 0)) := hB.cell 0 (by omega)
  have hc1 : w.cell? ⟨b, off + 1, none⟩ = some (.int .u8 (z 1)) := hB.cell 1 (by omega)
  have hon := hE.on 0 (by omega)
  have hon1 := hE.on 1 (by omega)
  have hm' := hm
  unfold maxLen at hm
  go_enter Ybaf.func9, Ybaf.ntmps9
  go_wp2_with fail
  refine (uv_wide b off len cap z _ hm' hB hE).mono ?_
  rintro e w' ⟨k, hk0, hk1, rfl, rfl⟩
  by_cases hk : k = 0
  · subst hk
    go_wp2
    go_ret3
    exact ⟨_, rfl, (Below.refl _ _).alloc (Nat.le_refl _) _⟩
  · have hk' : (k == 0) = false := by simp [hk]
    have hneg : k < 0 := by omega
    clear hk
    go_wp2
    go_ret3
    exact ⟨_, rfl, (Below.refl _ _).alloc (Nat.le_refl _) _⟩

set_option maxRecDepth 100000 in
set_option maxHeartbeats 400000 in
theorem uo_slack (F : Interp) (b off len cap i0 : Nat) (z : Nat → Nat) (w : World) (hF : F.answers w.tape) (hm : len ≤ maxLen) (hB : Bytes w b off len z) (hE : Slack z len i0) : Calls Ybaf.prog 9 #[.slice (some ⟨b, off, none⟩) len cap] w (BadUo w) := by
  unfold BadUo
  have hl := hE.lt
  have hp := hE.pos
  have hn := hE.nine
  have hc : w.cell? ⟨b, off, none⟩ = some (.int .u8 (z 0)) := hB.cell 0 (by omega)
  have hon := hE.on 0 (by omega)
  have hci : w.cell? ⟨b, off + i0, none⟩ = some (.int .u8 0) := by have := hB.cell i0 hE.lt; rw [hE.zero] at this; exact this
  have hm' := hm
  have hval := uv_ok b off len cap i0 z w hm' hB hE.lt (by rw [hE.zero]; omega) hE.on hE.nine (fun _ => by rw [hE.zero]; omega)
  have HVL : Hid (Calls Ybaf.prog 11 #[.slice (some ⟨b, off, none⟩) len cap] w fun e w' => e = .returned (.tuple #[.int .u64 (val z i0), .int .i64 ((i0 + 1 : Nat) : Int)]) ∧ w' = w) := hval
  clear hval
  unfold maxLen at hm
  by_cases h1 : i0 = 1
  · subst h1
    go_enter Ybaf.func9, Ybaf.ntmps9
    go_wp2_with fail
    refine (show Calls _ _ _ _ _ from HVL.out).mono ?_
    rintro e w' ⟨rfl, rfl⟩
    go_wp2_with fail
    refine (errB F (val z 1) 2 _ _ (by exact hF) (by go_simp) (by go_simp)).mono ?_
    rintro e w' ⟨k, rfl, hb⟩
    go_wp2
    go_ret3
    exact ⟨_, rfl, ((Below.refl _ _).alloc (Nat.le_refl _) _).trans (hb.mono (by simp))⟩
  · have hc1 : w.cell? ⟨b, off + 1, none⟩ = some (.int .u8 (z 1)) := hB.cell 1 (by omega)
    have hon1 := hE.on 1 (by omega)
    have hi2 : 2 ≤ i0 := by omega
    clear h1
    go_enter Ybaf.func9, Ybaf.ntmps9
    go_wp2_with fail
    refine (show Calls _ _ _ _ _ from HVL.out).mono ?_
    rintro e w' ⟨rfl, rfl⟩
    go_wp2_with fail
    refine (errB F (val z i0) ((i0 : Int) + 1) _ _ (by exact hF) (by go_simp) (by go_simp)).mono ?_
    rintro e w' ⟨k, rfl, hb⟩
    go_wp2
    go_ret3
    exact ⟨_, rfl, ((Below.refl _ _).alloc (Nat.le_refl _) _).trans (hb.mono (by simp))⟩

end Go.Proofs.YbulkaljiFmt
