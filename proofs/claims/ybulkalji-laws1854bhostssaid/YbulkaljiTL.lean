import Derived.Test.YbulkaljiTJ
import Derived.LaidEql
namespace Go.Proofs.Ybulkalji
open Go.RowKit
set_option linter.unusedVariables false
set_option linter.unusedSimpArgs false

theorem neq57 (w : World) (a : Addr) : (binOp .neq 57 (.pointer (some a)) (.pointer (some a))).run Yba.prog w = .ok (.bool false) w := by
  obtain ⟨j, hj⟩ := Option.isSome_iff_exists.1 (show (Yba.prog.info? 68).isSome = true by kernel_rfl)
  have h : ∀ d : Nat, (Op.equalIn (d + 1) 57 (.pointer (some a)) (.pointer (some a))).run Yba.prog w = .ok true w := fun d => by
    simp [Op.equalIn, run_underlying Yba.underlying57, sizeOf, typeInfo, hj, run_sameAddr_same]
  simp only [binOp]
  simp [Op.equal, Op.maxDepth, h 9999]
theorem neq74 (w : World) : (binOp .neq 74 (.slice none 0 0) (.slice none 0 0)).run Yba.prog w = .ok (.bool false) w := by kernel_rfl
theorem neq60 (w : World) : (binOp .neq 60 (.slice none 0 0) (.slice none 0 0)).run Yba.prog w = .ok (.bool false) w := by kernel_rfl
theorem eql63 (w : World) (a : Addr) : (binOp .eql 63 (.pointer (some a)) (.pointer none)).run Yba.prog w = .ok (.bool false) w := by kernel_rfl
theorem eql71 (w : World) (M : Nat) : (binOp .eql 71 (.map (some M)) (.map none)).run Yba.prog w = .ok (.bool false) w := by kernel_rfl

/-! ### the run's rows, as newSplitter asks for them -/
def evL (hs : Nat → Nat) (k : Nat) : List Value := ((List.range k).map fun j => (evCells (hs j)).toList).flatten
theorem evL_succ (hs : Nat → Nat) (k : Nat) : evL hs (k + 1) = evL hs k ++ (evCells (hs k)).toList := by
  unfold evL
  rw [List.range_succ]
  simp
theorem evL_len (hs : Nat → Nat) : ∀ k, (evL hs k).length = k * 9
  | 0 => rfl
  | k + 1 => by rw [evL_succ, List.length_append, evL_len hs k]; simp [evCells]; omega
theorem evL_get (hs : Nat → Nat) : ∀ (k j c : Nat), j < k → c < 9 → (evL hs k)[j * 9 + c]? = (evCells (hs j))[c]?
  | 0, j, c, h, _ => by omega
  | k + 1, j, c, h, hc => by
    rw [evL_succ]
    by_cases e : j = k
    · subst e
      rw [List.getElem?_append_right (by rw [evL_len]; omega), evL_len, show j * 9 + c - j * 9 = c from by omega]
      simp
    · rw [List.getElem?_append_left (by rw [evL_len]; omega)]
      exact evL_get hs k j c (by omega) hc

def runCells (ev nE cap ns nl : Nat) : Array Value := #[.slice (some ⟨ev, 0, none⟩) nE cap, .slice (some ⟨ns, 0, none⟩) nl nl, .map none, .slice none 0 0, .slice none 0 0, .slice none 0 0, .slice none 0 0, .slice none 0 0, .slice none 0 0, .map none, .slice none 0 0, .pointer none, .slice none 0 0, .slice none 0 0, .slice none 0 0]

theorem evs_of {w : World} {B ev nE cap ns nl : Nat} {hs : Nat → Nat} (h : w.ownsRow B 56 9 (.slice (some ⟨ev, 0, none⟩) nE cap) nE (evL hs nE)) (hf : nE ≤ 1024) (hle : nE ≤ cap) (t : TypeId) :
    Evs (w.alloc (.cells (runCells ev nE cap ns nl) t)) (w.alloc (.cells (runCells ev nE cap ns nl) t)).heap.size w.heap.size ev nE hs := by
  have hb := (MapKept.heap_alloc w (.cells (runCells ev nE cap ns nl) t)).1
  have hlt := (h.lt ev rfl).2
  refine ⟨⟨cap, (blk_cell hb 0).trans rfl, hle⟩, fun j hj c hc => ?_, ⟨by simp, by simp; omega⟩, hf⟩
  have hcell := h.cellAt (j * 9 + c) (by omega)
  rw [evL_get hs nE j c hj hc] at hcell
  cases hv : (evCells (hs j))[c]? with
  | none =>
    have : c < (evCells (hs j)).size := hc
    rw [Array.getElem?_eq_getElem this] at hv
    cases hv
  | some v => rw [hv] at hcell; exact cell_al hcell _

theorem nms_of {w : World} {B ev nE cap ns nl : Nat} {nm : Nat → ByteArray} (h : w.ownsRow B 9 1 (.slice (some ⟨ns, 0, none⟩) nl nl) nl (strs nm nl)) (hf : nl ≤ 256) (hsh : ∀ j, j < nl → (nm j).size ≤ 281474976710000) (t : TypeId) :
    Nms (w.alloc (.cells (runCells ev nE cap ns nl) t)) (w.alloc (.cells (runCells ev nE cap ns nl) t)).heap.size w.heap.size ns nl nm := by
  have hb := (MapKept.heap_alloc w (.cells (runCells ev nE cap ns nl) t)).1
  have hlt := (h.lt ns rfl).2
  exact ⟨⟨nl, (blk_cell hb 1).trans rfl, Nat.le_refl _⟩, fun j hj => cell_al ((h.cellAt j (by omega)).trans (strs_get nm nl j hj)) _, ⟨by simp, by simp; omega⟩, hsh, hf⟩

end Go.Proofs.Ybulkalji
