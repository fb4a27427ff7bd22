import Derived.WalkKit
import Derived.Laws.Cover2
namespace Go.Proofs.Ybulkalma
set_option linter.unusedVariables false
set_option linter.unusedSimpArgs false

/-! ### the order of two floats, turned about -/
theorem cmp_swap_nat (a b : Nat) : compare b a = (compare a b).swap := by
  show compareOfLessAndEq b a = (compareOfLessAndEq a b).swap
  unfold compareOfLessAndEq
  by_cases h1 : a < b
  · rw [if_pos h1, if_neg (show ¬ b < a by omega), if_neg (show ¬ b = a by omega)]
    rfl
  · by_cases h2 : a = b
    · rw [if_neg h1, if_pos h2, if_neg (show ¬ b < a by omega), if_pos h2.symm]
      rfl
    · rw [if_neg h1, if_neg h2, if_pos (show b < a by omega)]
      rfl
theorem cmp_swap_int (a b : Int) : compare b a = (compare a b).swap := by
  show compareOfLessAndEq b a = (compareOfLessAndEq a b).swap
  unfold compareOfLessAndEq
  by_cases h1 : a < b
  · rw [if_pos h1, if_neg (show ¬ b < a by omega), if_neg (show ¬ b = a by omega)]
    rfl
  · by_cases h2 : a = b
    · rw [if_neg h1, if_pos h2, if_neg (show ¬ b < a by omega), if_pos h2.symm]
      rfl
    · rw [if_neg h1, if_neg h2, if_pos (show b < a by omega)]
      rfl

theorem datum_swap (x y : Ieee.Datum) : y.order x = (x.order y).map Ordering.swap := by
  cases x with
  | nan => cases y <;> rfl
  | infinity s =>
    cases y with
    | nan => rfl
    | infinity t => simp only [Ieee.Datum.order, Option.map]; rw [cmp_swap_nat]
    | number t n j => cases s <;> rfl
  | number s m i =>
    cases y with
    | nan => rfl
    | infinity t => cases t <;> rfl
    | number t n j =>
      simp only [Ieee.Datum.order, Option.map]
      rw [cmp_swap_int, Int.min_comm]

/-- Float p against float q, as the model orders them. -/
def ordF (p q : Nat) : Option Ordering := FloatKind.f64.format.order p q
theorem ordF_swap (p q : Nat) : ordF q p = (ordF p q).map Ordering.swap := datum_swap _ _

/-! ### what the functions compute -/
def cmpI (h l h' l' : Int) : Int := if h < h' then -1 else if h' < h then 1 else if l < l' then -1 else if l' < l then 1 else 0
def lessB (h l i h' l' i' : Int) : Bool := if cmpI h l h' l' = 0 then decide (i < i') else decide (cmpI h l h' l' < 0)
def nearB (h l i : Int) (p : Nat) (h' l' i' : Int) (p' : Nat) : Bool := if ordF p p' = some .eq then lessB h l i h' l' i' else ordF p p' == some .lt
def clessB (h l i h' l' i' : Int) : Bool := if h = h' then (if l = l' then decide (i < i') else decide (l < l')) else decide (h < h')
def modelB (h l i : Int) (p : Nat) (h' l' i' : Int) (p' : Nat) : Bool := if ordF p p' = some .lt then true else if ordF p p' = some .gt then false else if ordF p p' = some .eq then clessB h l i h' l' i' else false
def cmpC (h l i : Int) (p : Nat) (h' l' i' : Int) (p' : Nat) : Int := if nearB h l i p h' l' i' p' = true then -1 else if nearB h' l' i' p' h l i p = true then 1 else 0

theorem less_cless (h l i h' l' i' : Int) : lessB h l i h' l' i' = clessB h l i h' l' i' := by
  unfold lessB clessB cmpI
  repeat' split
  all_goals first | rfl | (exfalso; omega) | (rw [Bool.eq_iff_iff]; simp; omega) | skip

theorem near_model (h l i : Int) (p : Nat) (h' l' i' : Int) (p' : Nat) : nearB h l i p h' l' i' p' = modelB h l i p h' l' i' p' := by
  unfold nearB modelB
  rw [less_cless]
  cases ordF p p' with
  | none => rfl
  | some o => cases o <;> rfl

theorem less_asym (h l i h' l' i' : Int) : ¬ (lessB h l i h' l' i' = true ∧ lessB h' l' i' h l i = true) := by
  rw [less_cless, less_cless]
  unfold clessB
  repeat' split
  all_goals (simp only [decide_eq_true_eq]; omega)

theorem less_total (h l i h' l' i' : Int) (hne : ¬ (h = h' ∧ l = l' ∧ i = i')) : lessB h l i h' l' i' ≠ lessB h' l' i' h l i := by
  rw [less_cless, less_cless]
  unfold clessB
  repeat' split
  all_goals (intro e; rw [Bool.eq_iff_iff] at e; simp only [decide_eq_true_eq] at e; omega)

theorem near_asym (h l i : Int) (p : Nat) (h' l' i' : Int) (p' : Nat) : ¬ (nearB h l i p h' l' i' p' = true ∧ nearB h' l' i' p' h l i p = true) := by
  unfold nearB
  rw [ordF_swap p p']
  cases ordF p p' with
  | none => simp
  | some o =>
    cases o
    · simp
    · simpa using less_asym h l i h' l' i'
    · simp

theorem near_total (h l i : Int) (p : Nat) (h' l' i' : Int) (p' : Nat) (he : ordF p p' = some .eq) (hne : ¬ (h = h' ∧ l = l' ∧ i = i')) : nearB h l i p h' l' i' p' ≠ nearB h' l' i' p' h l i p := by
  unfold nearB
  rw [ordF_swap p p', he]
  simpa using less_total h l i h' l' i' hne

theorem cmpC_neg (h l i : Int) (p : Nat) (h' l' i' : Int) (p' : Nat) : cmpC h l i p h' l' i' p' = - cmpC h' l' i' p' h l i p := by
  have := near_asym h l i p h' l' i' p'
  unfold cmpC
  generalize nearB h l i p h' l' i' p' = x at *
  generalize nearB h' l' i' p' h l i p = y at *
  cases x <;> cases y <;> simp_all

theorem cmpC_bd (h l i : Int) (p : Nat) (h' l' i' : Int) (p' : Nat) : -1 ≤ cmpC h l i p h' l' i' p' ∧ cmpC h l i p h' l' i' p' ≤ 1 := by
  unfold cmpC
  split
  · omega
  · split <;> omega

end Go.Proofs.Ybulkalma
