import Derived.Test.YbulkalmaBB
namespace Go.Proofs.Ybulkalma
open Go.RowKit
set_option linter.unusedVariables false
set_option linter.unusedSimpArgs false

theorem bcell {W w1 : World} {B : Nat} (hb : Below B W w1) : (∀ b o, b < B → w1.cell? ⟨b, o, none⟩ = W.cell? ⟨b, o, none⟩) ∧ (∀ b o, b < B → w1.frozen? ⟨b, o, none⟩ = W.frozen? ⟨b, o, none⟩) :=
  ⟨fun b o h => hb.cell (p := ⟨b, o, none⟩) h, fun b o h => hb.frozen (p := ⟨b, o, none⟩) h⟩

set_option maxRecDepth 100000 in
set_option maxHeartbeats 400000 in
theorem bits_walk (hi lo s : Nat) (a2 : Int) (w : World) (h : U64 hi) (l : U64 lo) (h0 : 0 ≤ a2) (h1 : a2 ≤ 255) (hs : a2 % 129 = (s : Int)) :
    Calls Yba.prog 3 #[.int .u64 hi, .int .u64 lo, .int .u8 a2] w fun e w' => e = .returned (.bool true) ∧ Below w.heap.size w w' := by
  have hs2 : s ≤ 128 := by omega
  go_enter Yba.func3, Yba.ntmps3
  go_wp2_with fail
  refine (shr_any hi lo s _ h l hs2).mono ?_
  rintro e w1 ⟨rfl, hb1⟩
  have hb := ((Below.refl w.heap.size w).alloc (Nat.le_refl _) (.cells #[.int .u64 hi, .int .u64 lo] 24)).trans (hb1.mono (by simp))
  have d0 : w1.cell? ⟨w.heap.size, 0, none⟩ = some (.int .u64 hi) := by rw [hb1.cell (by simp)]; simp
  have d1 : w1.cell? ⟨w.heap.size, 1, none⟩ = some (.int .u64 lo) := by rw [hb1.cell (by simp)]; simp
  have hz : w.heap.size < w1.heap.size := by have := hb1.size; simp at this; omega
  clear hb1
  go_wp2_with fail
  refine (model_any hi lo s _ h l hs2).mono ?_
  rintro e w2 ⟨rfl, hb2⟩
  have e0 : w2.cell? ⟨w1.heap.size, 0, none⟩ = some (.int .u64 (gHi hi lo s)) := by rw [hb2.cell (by simp)]; simp
  have e1 : w2.cell? ⟨w1.heap.size, 1, none⟩ = some (.int .u64 (gLo hi lo s)) := by rw [hb2.cell (by simp)]; simp
  have hz2 : w1.heap.size < w2.heap.size := by have := hb2.size; simp at this; omega
  have hbb := (hb.alloc (by omega) (.cells #[.int .u64 (gHi hi lo s), .int .u64 (gLo hi lo s)] 24)).trans (hb2.mono (by simp; omega))
  clear hb2 hb
  go_wp2
  go_ret
  exact ⟨rfl, hbb.alloc (by omega) _⟩
end Go.Proofs.Ybulkalma
