/-
  The proof of 'Rows.LawS1859CModelSaid': the frame after the seat's shell for a law (written by program), turned to two structs by value; the walk: YbulkalmaCA .. YbulkalmaCD.
-/
import Derived.Test.YbulkalmaCD
import Derived.WalkKit
import Derived.ProofKit
import Derived.OpenShut
import Derived.ChangeOld
import Derived.Below
import Derived.Lib.SmallJoins
namespace Go.Proofs.Ybulkalma.lawS1859CModel
open Go.ChangeShapes Go.WideShapes Go.ChangeAt Go.RowKit Go.Joins
set_option linter.unusedVariables false
set_option linter.unusedSimpArgs false

theorem own : ownKnob Yba.prog.godebug = none := by kernel_rfl
theorem laidOut : laidOutB Yba.prog = true := by kernel_rfl
theorem cells31 : Yba.prog.cellsOf 31 = 4 := by kernel_rfl

/-- A cell that reads as a float is one. -/
theorem float_of {H : Type} {enc : TypeId × Value → H} {w : World} {base : Nat} {sp : Nat → Bool} {held : Bool} {fuel : Nat} {v : Value} {x : DataW H × List MemPlace} (h : DataW.trod enc Yba.prog w base sp held fuel 29 [v] = some x) : ∃ b, v = .float .f64 b := by
  cases fuel with
  | zero => simp [DataW.trod] at h
  | succ n =>
    unfold DataW.trod at h
    rw [Yba.underlying29] at h
    split at h <;> simp_all

set_option maxRecDepth 100000 in
theorem lifted (os : Os) (started : os.Started) (H : Type) (enc : TypeId × Value → H) :
    ReturnsInHanded {} Yba.checked os 5 .any (Rows.lawS1859CModelSpec.pre6 enc Yba.prog Yba.f5 Rows.lawS1859CModelRow.domain false) (Rows.lawS1859CModelSpec.post enc Yba.prog Yba.f5 false true false false) := by
  refine returnsInHanded_of_change (C := Yba.checked) own started (by kernel_rfl) Yba.func5
    (ChangeSpec.witness6 (enc := enc) (C := Yba.checked) false ⟨#[], #[.agg #[.int .u64 0, .int .u64 0, .int .u64 0, .float .f64 0], .agg #[.int .u64 0, .int .u64 0, .int .u64 0, .float .f64 0]], []⟩ 8 (by kernel_rfl) (by kernel_rfl) (by kernel_rfl) (by kernel_rfl)) ?_
  intro W base args ds gs before hval0 hW hcnd _
  have hval : ∀ (j : Nat) t v, Yba.f5.params[j]? = some t → args[j]? = some v → Value.okWide Yba.prog W .any base t v := hval0
  have hW' := hW
  obtain ⟨p, q, hA0, hV, rfl, hfz, hnd⟩ := hW
  have hA : DataW.TrodAll enc Yba.prog W 0 (fun _ => true) true Yba.f5.params.toList args.toList ds p := hA0
  rw [Yba.params5] at hA hval
  obtain ⟨v0, vs0, d0, ds0, p0, q0, hargs, rfl, rfl, h0, r0⟩ := trodAll_cons hA
  obtain ⟨v1, vs1, d1, ds1, p1, q1, rfl, rfl, rfl, h1, r1⟩ := trodAll_cons r0
  obtain ⟨rfl, rfl, rfl⟩ := trodAll_nil r1
  obtain rfl : args = #[v0, v1] := by cases args; simp_all
  obtain ⟨rfl, rfl⟩ := trodVars_none hV
  have k0 := h0
  have lt0 : ∀ x ∈ p0, x.block < W.heap.size := by obtain ⟨m, hm⟩ := k0; exact DataW.trod_lt m _ _ _ hm
  have k1 := h1
  have lt1 : ∀ x ∈ p1, x.block < W.heap.size := by obtain ⟨m, hm⟩ := k1; exact DataW.trod_lt m _ _ _ hm
  obtain ⟨e0, hv0⟩ : ∃ e : Int × Int × Int × Nat, v0 = .agg #[.int .u64 e.1, .int .u64 e.2.1, .int .u64 e.2.2.1, .float .f64 e.2.2.2] := by
    obtain ⟨c0, c1, c2, c3, y0, y1, y2, y3, m, rfl, _, _, t0, t1, t2, t3⟩ := open_agg4 Yba.underlying31 (by kernel_rfl) cells31 (hval 0 31 v0 rfl rfl) h0
    obtain ⟨a0, g0, _, _⟩ := DataW.trod_int Yba.underlying22 t0
    obtain ⟨a1, g1, _, _⟩ := DataW.trod_int Yba.underlying22 t1
    obtain ⟨a2, g2, _, _⟩ := DataW.trod_int Yba.underlying22 t2
    obtain ⟨a3, g3⟩ := float_of t3
    simp at g0 g1 g2
    subst g0 g1 g2 g3
    exact ⟨(a0, a1, a2, a3), rfl⟩
  obtain ⟨e1, hv1⟩ : ∃ e : Int × Int × Int × Nat, v1 = .agg #[.int .u64 e.1, .int .u64 e.2.1, .int .u64 e.2.2.1, .float .f64 e.2.2.2] := by
    obtain ⟨c0, c1, c2, c3, y0, y1, y2, y3, m, rfl, _, _, t0, t1, t2, t3⟩ := open_agg4 Yba.underlying31 (by kernel_rfl) cells31 (hval 1 31 v1 rfl rfl) h1
    obtain ⟨a0, g0, _, _⟩ := DataW.trod_int Yba.underlying22 t0
    obtain ⟨a1, g1, _, _⟩ := DataW.trod_int Yba.underlying22 t1
    obtain ⟨a2, g2, _, _⟩ := DataW.trod_int Yba.underlying22 t2
    obtain ⟨a3, g3⟩ := float_of t3
    simp at g0 g1 g2
    subst g0 g1 g2 g3
    exact ⟨(a0, a1, a2, a3), rfl⟩
  obtain ⟨x0, x1, x2, x3⟩ := e0
  obtain ⟨z0, z1, z2, z3⟩ := e1
  subst hv0 hv1
  clear hA0 hval0
  refine (model_law x0 x1 x2 x3 z0 z1 z2 z3 W).mono fun e W' ⟨he, bel⟩ => ?_
  subst he
  exact ⟨_, rfl, _, _, _, [], _, [], hW', trodAll_mk1 (shut_bool Yba.underlying4 _), (trodAll_cons_mk (Below.trod laidOut (by kernel_rfl) (of_decide_eq_true (by kernel_rfl)) k0 bel lt0) (trodAll_cons_mk (Below.trod laidOut (by kernel_rfl) (of_decide_eq_true (by kernel_rfl)) k1 bel lt1) trodAll_mk0)), rfl, bel.frame _, fun h => by cases h⟩

theorem over : Rows.lawS1859CModelRow.holds Yba.pinned (OpenSpec.ofChange Rows.lawS1859CModelSpec) :=
  OpenClaim.holds_of_wide 5 Yba.f5 rfl rfl rfl rfl rfl rfl rfl ⟨rfl, rfl, rfl, rfl, rfl⟩ rfl rfl rfl rfl rfl (by kernel_rfl) Yba.func5 (by kernel_rfl)
    (of_decide_eq_true (by kernel_rfl)) (by unfold Func.isWrapper; first | (rw [if_pos (by decide +kernel)]; kernel_rfl) | (rw [if_neg (by decide +kernel)]; exact ⟨rfl, rfl⟩))
    (fun os started H enc _ => lifted os started H enc)

/-- THE STATEMENT -/
theorem proved : Rows.LawS1859CModelSaid := over
#print axioms proved
end Go.Proofs.Ybulkalma.lawS1859CModel
