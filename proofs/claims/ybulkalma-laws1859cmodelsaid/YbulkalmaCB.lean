import Derived.Test.YbulkalmaRows
import Derived.Test.YbulkalmaCA
import Derived.Below
import Derived.Deep.RegionHeld3
namespace Go.Proofs.Ybulkalma
open Go.RowKit
set_option linter.unusedVariables false
set_option linter.unusedSimpArgs false

theorem retv {v u : Value} (h : v = u) : Ending.returned v = Ending.returned u := by rw [h]
theorem two {w : World} (o o' : Obj) : Below w.heap.size w ((w.alloc o).alloc o') := ((Below.refl _ _).alloc (Nat.le_refl _) _).alloc (by simp) _

set_option maxRecDepth 100000 in
set_option maxHeartbeats 400000 in
theorem cmp_any (h l h' l' : Int) (w : World) :
    Calls Yba.prog 16 #[.agg #[.int .u64 h, .int .u64 l], .agg #[.int .u64 h', .int .u64 l']] w fun e w' => e = .returned (.int .i64 (cmpI h l h' l')) ∧ Below w.heap.size w w' := by
  go_enter Yba.func16, Yba.ntmps16
  go_wp2
  all_goals (go_ret; refine ⟨retv (congrArg (Value.int .i64) ?_), two _ _⟩)
  all_goals (unfold cmpI; repeat (first | rw [if_pos (by omega)] | rw [if_neg (by omega)]))

theorem run_store_flt (P : Program) (w : World) (a : Addr) (k : FloatKind) (n : Nat) (m : Mode) : (store a (.float k n) m).run P w = stored P w a (.float k n) m := run_store P w a _ m rfl
attribute [local go_sem] run_store_flt

set_option maxRecDepth 100000 in
set_option maxHeartbeats 400000 in
theorem mk_any (h l i : Int) (p : Nat) (w : World) :
    Calls Yba.prog 9 #[.agg #[.int .u64 h, .int .u64 l, .int .u64 i, .float .f64 p]] w fun e w' => e = .returned (.agg #[.int .u64 h, .int .u64 l, .int .u64 i, .float .f64 p]) ∧ Below w.heap.size w w' := by
  go_enter Yba.func9, Yba.ntmps9
  go_wp2
  exact bodyPost_ret (v := .agg #[.int .u64 h, .int .u64 l, .int .u64 i, .float .f64 p]) (by simp [results, Yba.results9, go_sem]) rfl ⟨rfl, two _ _⟩

set_option maxRecDepth 100000 in
set_option maxHeartbeats 400000 in
theorem less_any (h l i h' l' i' : Int) (w : World) :
    Calls Yba.prog 14 #[.agg #[.int .u64 h, .int .u64 l, .int .u64 i], .agg #[.int .u64 h', .int .u64 l', .int .u64 i']] w fun e w' => e = .returned (.bool (lessB h l i h' l' i')) ∧ Below w.heap.size w w' := by
  go_enter Yba.func14, Yba.ntmps14
  go_wp2_with fail
  refine (cmp_any h l h' l' _).mono ?_
  rintro e w1 ⟨rfl, hb1⟩
  have hb := (two (w := w) (.cells #[.int .u64 h, .int .u64 l, .int .u64 i] 33) (.cells #[.int .u64 h', .int .u64 l', .int .u64 i'] 33)).trans (hb1.mono (by simp; omega))
  have c2 : w1.cell? ⟨w.heap.size, 2, none⟩ = some (.int .u64 i) := by rw [hb1.cell (by simp <;> omega)]; simp
  have c2' : w1.cell? ⟨w.heap.size + 1, 2, none⟩ = some (.int .u64 i') := by rw [hb1.cell (by simp <;> omega)]; simp
  clear hb1
  by_cases hc : cmpI h l h' l' = 0
  · have HC : Hid (lessB h l i h' l' i' = decide (i < i')) := by simp [Hid, lessB, hc]
    rw [hc]
    clear hc
    go_wp2
    go_ret
    exact ⟨retv (congrArg Value.bool HC.out.symm), hb⟩
  · have HC : Hid (lessB h l i h' l' i' = decide (cmpI h l h' l' < 0)) := by simp [Hid, lessB, hc]
    have hb2 : (cmpI h l h' l' != 0) = true := by simp [hc]
    clear hc
    generalize cmpI h l h' l' = cc at *
    go_wp2
    go_ret
    exact ⟨retv (congrArg Value.bool HC.out.symm), hb⟩

end Go.Proofs.Ybulkalma
