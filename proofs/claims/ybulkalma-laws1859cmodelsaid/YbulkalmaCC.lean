import Derived.Test.YbulkalmaCB
namespace Go.Proofs.Ybulkalma
open Go.RowKit
set_option linter.unusedVariables false
set_option linter.unusedSimpArgs false
attribute [local go_sem] run_store_flt

set_option maxRecDepth 100000 in
set_option maxHeartbeats 400000 in
theorem near_any (h l i : Int) (p : Nat) (h' l' i' : Int) (p' : Nat) (w : World) :
    Calls Yba.prog 10 #[.agg #[.int .u64 h, .int .u64 l, .int .u64 i, .float .f64 p], .agg #[.int .u64 h', .int .u64 l', .int .u64 i', .float .f64 p']] w fun e w' => e = .returned (.bool (nearB h l i p h' l' i' p')) ∧ Below w.heap.size w w' := by
  by_cases he : ordF p p' = some .eq
  · have HN : Hid (nearB h l i p h' l' i' p' = lessB h l i h' l' i') := by simp [Hid, nearB, he]
    have hq : (FloatKind.f64.format.order p p' != some .eq) = false := by have : FloatKind.f64.format.order p p' = some .eq := he; rw [this]; rfl
    clear he
    go_enter Yba.func10, Yba.ntmps10
    go_wp2_with fail
    refine (less_any h l i h' l' i' _).mono ?_
    rintro e w1 ⟨rfl, hb1⟩
    go_wp2
    go_ret
    exact ⟨retv (congrArg Value.bool HN.out.symm), (two _ _).trans (hb1.mono (by simp; omega))⟩
  · have HN : Hid (nearB h l i p h' l' i' p' = (ordF p p' == some .lt)) := by simp [Hid, nearB, he]
    have hq : (FloatKind.f64.format.order p p' != some .eq) = true := by have : ¬ FloatKind.f64.format.order p p' = some .eq := he; simpa using this
    clear he
    go_enter Yba.func10, Yba.ntmps10
    go_wp2
    go_ret
    exact ⟨retv (congrArg Value.bool HN.out.symm), two _ _⟩

set_option maxRecDepth 100000 in
set_option maxHeartbeats 400000 in
theorem cless_any (h l i : Int) (p : Nat) (h' l' i' : Int) (p' : Nat) (w : World) :
    Calls Yba.prog 15 #[.agg #[.int .u64 h, .int .u64 l, .int .u64 i, .float .f64 p], .agg #[.int .u64 h', .int .u64 l', .int .u64 i', .float .f64 p']] w fun e w' => e = .returned (.bool (clessB h l i h' l' i')) ∧ Below w.heap.size w w' := by
  by_cases e1 : h = h'
  · have b1 : (h != h') = false := by simp [e1]
    by_cases e2 : l = l'
    · have b2 : (l != l') = false := by simp [e2]
      have HN : Hid (clessB h l i h' l' i' = decide (i < i')) := by simp [Hid, clessB, e1, e2]
      clear e1 e2
      go_enter Yba.func15, Yba.ntmps15
      go_wp2
      go_ret
      exact ⟨retv (congrArg Value.bool HN.out.symm), two _ _⟩
    · have b2 : (l != l') = true := by simp [e2]
      have HN : Hid (clessB h l i h' l' i' = decide (l < l')) := by simp [Hid, clessB, e1, e2]
      clear e1 e2
      go_enter Yba.func15, Yba.ntmps15
      go_wp2
      go_ret
      exact ⟨retv (congrArg Value.bool HN.out.symm), two _ _⟩
  · have b1 : (h != h') = true := by simp [e1]
    have HN : Hid (clessB h l i h' l' i' = decide (h < h')) := by simp [Hid, clessB, e1]
    clear e1
    go_enter Yba.func15, Yba.ntmps15
    go_wp2
    go_ret
    exact ⟨retv (congrArg Value.bool HN.out.symm), two _ _⟩

set_option maxRecDepth 100000 in
set_option maxHeartbeats 400000 in
theorem cmodel_any (h l i : Int) (p : Nat) (h' l' i' : Int) (p' : Nat) (w : World) :
    Calls Yba.prog 11 #[.agg #[.int .u64 h, .int .u64 l, .int .u64 i, .float .f64 p], .agg #[.int .u64 h', .int .u64 l', .int .u64 i', .float .f64 p']] w fun e w' => e = .returned (.bool (modelB h l i p h' l' i' p')) ∧ Below w.heap.size w w' := by
  cases ho : ordF p p' with
  | none =>
    have HN : Hid (modelB h l i p h' l' i' p' = false) := by simp [Hid, modelB, ho]
    have hq : FloatKind.f64.format.order p p' = none := ho
    clear ho
    have q1 : (FloatKind.f64.format.order p p' == some .lt) = false := by rw [hq]; rfl
    have q2 : (FloatKind.f64.format.order p p' == some .gt) = false := by rw [hq]; rfl
    have q3 : (FloatKind.f64.format.order p p' == some .eq) = false := by rw [hq]; rfl
    clear hq
    go_enter Yba.func11, Yba.ntmps11
    go_wp2
    go_ret
    exact ⟨retv (congrArg Value.bool HN.out.symm), two _ _⟩
  | some o =>
    cases o
    · have HN : Hid (modelB h l i p h' l' i' p' = true) := by simp [Hid, modelB, ho]
      have hq : FloatKind.f64.format.order p p' = some .lt := ho
      clear ho
      have q1 : (FloatKind.f64.format.order p p' == some .lt) = true := by rw [hq]; rfl
      clear hq
      go_enter Yba.func11, Yba.ntmps11
      go_wp2
      go_ret
      exact ⟨retv (congrArg Value.bool HN.out.symm), two _ _⟩
    · have HN : Hid (modelB h l i p h' l' i' p' = clessB h l i h' l' i') := by simp [Hid, modelB, ho]
      have hq : FloatKind.f64.format.order p p' = some .eq := ho
      clear ho
      have q1 : (FloatKind.f64.format.order p p' == some .lt) = false := by rw [hq]; rfl
      have q2 : (FloatKind.f64.format.order p p' == some .gt) = false := by rw [hq]; rfl
      have q3 : (FloatKind.f64.format.order p p' == some .eq) = true := by rw [hq]; rfl
      clear hq
      go_enter Yba.func11, Yba.ntmps11
      go_wp2_with fail
      refine (cless_any h l i p h' l' i' p' _).mono ?_
      rintro e w1 ⟨rfl, hb1⟩
      go_wp2
      go_ret
      exact ⟨retv (congrArg Value.bool HN.out.symm), (two _ _).trans (hb1.mono (by simp; omega))⟩
    · have HN : Hid (modelB h l i p h' l' i' p' = false) := by simp [Hid, modelB, ho]
      have hq : FloatKind.f64.format.order p p' = some .gt := ho
      clear ho
      have q1 : (FloatKind.f64.format.order p p' == some .lt) = false := by rw [hq]; rfl
      have q2 : (FloatKind.f64.format.order p p' == some .gt) = true := by rw [hq]; rfl
      clear hq
      go_enter Yba.func11, Yba.ntmps11
      go_wp2
      go_ret
      exact ⟨retv (congrArg Value.bool HN.out.symm), two _ _⟩

set_option maxRecDepth 100000 in
set_option maxHeartbeats 400000 in
theorem compare_any (h l i : Int) (p : Nat) (h' l' i' : Int) (p' : Nat) (w : World) :
    Calls Yba.prog 12 #[.agg #[.int .u64 h, .int .u64 l, .int .u64 i, .float .f64 p], .agg #[.int .u64 h', .int .u64 l', .int .u64 i', .float .f64 p']] w fun e w' => e = .returned (.int .i64 (cmpC h l i p h' l' i' p')) ∧ Below w.heap.size w w' := by
  go_enter Yba.func12, Yba.ntmps12
  go_wp2_with fail
  refine (near_any h l i p h' l' i' p' _).mono ?_
  rintro e w1 ⟨rfl, hb1⟩
  have hb := (two (w := w) (.cells #[.int .u64 h, .int .u64 l, .int .u64 i, .float .f64 p] 35) (.cells #[.int .u64 h', .int .u64 l', .int .u64 i', .float .f64 p'] 35)).trans (hb1.mono (by simp; omega))
  have c0 : w1.cell? ⟨w.heap.size, 0, none⟩ = some (.int .u64 h) := by rw [hb1.cell (by simp <;> omega)]; simp
  have c1 : w1.cell? ⟨w.heap.size, 1, none⟩ = some (.int .u64 l) := by rw [hb1.cell (by simp <;> omega)]; simp
  have c2 : w1.cell? ⟨w.heap.size, 2, none⟩ = some (.int .u64 i) := by rw [hb1.cell (by simp <;> omega)]; simp
  have c3 : w1.cell? ⟨w.heap.size, 3, none⟩ = some (.float .f64 p) := by rw [hb1.cell (by simp <;> omega)]; simp
  have d0 : w1.cell? ⟨w.heap.size + 1, 0, none⟩ = some (.int .u64 h') := by rw [hb1.cell (by simp <;> omega)]; simp
  have d1 : w1.cell? ⟨w.heap.size + 1, 1, none⟩ = some (.int .u64 l') := by rw [hb1.cell (by simp <;> omega)]; simp
  have d2 : w1.cell? ⟨w.heap.size + 1, 2, none⟩ = some (.int .u64 i') := by rw [hb1.cell (by simp <;> omega)]; simp
  have d3 : w1.cell? ⟨w.heap.size + 1, 3, none⟩ = some (.float .f64 p') := by rw [hb1.cell (by simp <;> omega)]; simp
  have hsz : w.heap.size ≤ w1.heap.size := hb.size
  clear hb1
  cases hn : nearB h l i p h' l' i' p'
  · go_wp2_with fail
    refine (near_any h' l' i' p' h l i p _).mono ?_
    rintro e w2 ⟨rfl, hb2⟩
    have hbb := hb.trans (hb2.mono hsz)
    cases hn2 : nearB h' l' i' p' h l i p
    · have HC : Hid (cmpC h l i p h' l' i' p' = 0) := by simp [Hid, cmpC, hn, hn2]
      clear hn hn2
      go_wp2
      go_ret
      exact ⟨retv (congrArg (Value.int .i64) HC.out.symm), hbb⟩
    · have HC : Hid (cmpC h l i p h' l' i' p' = 1) := by simp [Hid, cmpC, hn, hn2]
      clear hn hn2
      go_wp2
      go_ret
      exact ⟨retv (congrArg (Value.int .i64) HC.out.symm), hbb⟩
  · have HC : Hid (cmpC h l i p h' l' i' p' = -1) := by simp [Hid, cmpC, hn]
    clear hn
    go_wp2
    go_ret
    exact ⟨retv (congrArg (Value.int .i64) HC.out.symm), hb⟩

end Go.Proofs.Ybulkalma
