import Derived.Test.YbulkamicFmtRows
import Derived.WalkKit
import Derived.Below
import Derived.Stop.CallBack
import Derived.Stop.IfaceNil
import Derived.WalkSpells
import Derived.WalkSmall
import Derived.Deep.QuietTactic
import Derived.BigQuiet
import Derived.LaidEql
import GoSem.ClaimData
namespace Go.Proofs.YbulkamicFmt
open Go.RowKit Go.Extern.Stop Go.Stop Go.Extern
set_option linter.unusedVariables false
set_option linter.unusedSimpArgs false

/-! ### closed facts on fmt's stop at this dump -/
theorem call8 (args : Array Value) (w : World) : (callFunc 8 args).run Ybaf.prog w = ((FmtStop.errorf #[9, 37] #[23] args).run Ybaf.prog w).andThen fun v w' => .ok (.value v) w' :=
  run_callFunc_extern Ybaf.func8 (by kernel_rfl) (by kernel_rfl) (by kernel_rfl) (by kernel_rfl) args w
theorem guardF (name : String) (w : World) : (FmtStop.guard name).run Ybaf.prog w = .ok () w := by kernel_rfl
theorem fmtA1 (w : World) : (FmtDoors.printed ⟨#[37, 115, 32, 105, 115, 32, 109, 105, 115, 115, 105, 110, 103]⟩ 1).run Ybaf.prog w = .ok [(0, 115, false)] w := by kernel_rfl
def shape9 : List UInt8 := [12, 6, 0, 0, 0, 0, 0, 0, 0, 115, 116, 114, 105, 110, 103]
theorem op9 (name : String) (x : ByteArray) (w : World) : (FmtStop.operand name true 115 false (.iface 9 (.string x))).run Ybaf.prog w = .ok (shape9, FmtStop.pack x.data.toList) w := by kernel_rfl
theorem ptr33 (w : World) : (FmtStop.ptrTo "errors.errorString").run Ybaf.prog w = .ok 33 w := by kernel_rfl
theorem elem33 (w : World) : (elemOf 33).run Ybaf.prog w = .ok 35 w := by kernel_rfl
theorem ta_no (v : Value) (w : World) : (Instr.typeAssert (.iface 33 v) 23 28 true).run Ybaf.prog w = .ok (.tuple #[.pointer none, .bool false]) w := by
  have hz : (zeroValue 28).run Ybaf.prog w = .ok (.pointer none) w := by kernel_rfl
  simp [Instr.typeAssert, run_underlying Ybaf.underlying28, hz]
theorem ta_yes (v : Value) (w : World) : (Instr.typeAssert (.iface 28 v) 23 28 true).run Ybaf.prog w = .ok (.tuple #[v, .bool true]) w := by
  simp [Instr.typeAssert, run_underlying Ybaf.underlying28]
theorem info33 : (Ybaf.prog.info? 33).map (·.comparable) = some true := by kernel_rfl
theorem info35 : (Ybaf.prog.info? 35).isSome = true := by kernel_rfl
theorem eq23 (a : Addr) (w : World) : (binOp .eql 23 (.iface 33 (.pointer (some a))) (.iface 33 (.pointer (some a)))).run Ybaf.prog w = .ok (.bool true) w := by
  obtain ⟨j, hj⟩ := Option.isSome_iff_exists.1 info35
  obtain ⟨i, hi, hc⟩ := Option.map_eq_some_iff.1 info33
  exact run_eql_iface_ptr_same w a Ybaf.underlying23 Ybaf.underlying33 hi hc hj
attribute [local go_sem] call8 guardF fmtA1 op9 ptr33 elem33 ta_no ta_yes eq23


set_option maxRecDepth 100000 in
set_option maxHeartbeats 400000 in
/-- s is empty: parse is not called. -/
theorem req_empty (F : Interp) (field : ByteArray) (fail : Bool) (v : Int) (w : World) (hF : F.answers w.tape) :
    Calls Ybaf.prog 3 #[.string field, .string ⟨#[]⟩, .bool fail, .int .i64 v] w fun e w' => e = .returned (.bool true) ∧ Below w.heap.size w w' := by
  have hF' := answers_open hF
  go_enter Ybaf.func3, Ybaf.ntmps3
  go_wp2
  go_ret
  refine ⟨rfl, ?_⟩
  repeat (first | exact Below.refl _ _ | refine Below.drew ?_ | refine Below.alloc ?_ (by simp <;> omega) _)

set_option maxRecDepth 100000 in
set_option maxHeartbeats 400000 in
/-- parse refuses. -/
theorem req_fail (field s : ByteArray) (v : Int) (w : World) (hs : s.toList.isEmpty = false) :
    Calls Ybaf.prog 3 #[.string field, .string s, .bool true, .int .i64 v] w fun e w' => e = .returned (.bool true) ∧ Below w.heap.size w w' := by
  go_enter Ybaf.func3, Ybaf.ntmps3
  go_wp2
  go_quiet (fail)
  go_wp2
  go_quiet (fail)
  go_wp2
  go_ret
  refine ⟨rfl, ?_⟩
  repeat (first | exact Below.refl _ _ | refine below_drewN ?_ _ | refine Below.drew ?_ | refine Below.alloc ?_ (by simp <;> omega) _)

set_option maxRecDepth 100000 in
set_option maxHeartbeats 400000 in
/-- parse takes it. -/
theorem req_take (field s : ByteArray) (v : Int) (w : World) (hs : s.toList.isEmpty = false) :
    Calls Ybaf.prog 3 #[.string field, .string s, .bool false, .int .i64 v] w fun e w' => e = .returned (.bool true) ∧ Below w.heap.size w w' := by
  go_enter Ybaf.func3, Ybaf.ntmps3
  go_wp2
  go_ret
  refine ⟨rfl, ?_⟩
  repeat (first | exact Below.refl _ _ | refine Below.drew ?_ | refine Below.alloc ?_ (by simp <;> omega) _)

theorem req (F : Interp) (field s : ByteArray) (fail : Bool) (v : Int) (w : World) (hF : F.answers w.tape) :
    Calls Ybaf.prog 3 #[.string field, .string s, .bool fail, .int .i64 v] w fun e w' => e = .returned (.bool true) ∧ Below w.heap.size w w' := by
  cases h : s.toList.isEmpty with
  | true =>
    have e : s.toList = [] := by simpa using h
    have : s = ⟨#[]⟩ := by
      have h2 : s.toList = s.data.toList := ByteArray.toList_eq s
      rw [h2] at e
      obtain ⟨⟨l⟩⟩ := s
      simp at e; subst e; rfl
    subst this
    exact req_empty F field fail v w hF
  | false =>
    cases fail with
    | true => exact req_fail field s v w h
    | false => exact req_take field s v w h

end Go.Proofs.YbulkamicFmt
