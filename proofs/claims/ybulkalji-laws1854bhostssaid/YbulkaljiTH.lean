import Derived.Test.YbulkaljiTF
import Derived.Test.YbulkaljiTG
namespace Go.Proofs.Ybulkalji
open Go.RowKit
set_option linter.unusedVariables false
set_option linter.unusedSimpArgs false

def bools (f : Nat → Bool) (n : Nat) : List Value := (List.range n).map fun j => .bool (f j)
theorem bools_get (f : Nat → Bool) (n j : Nat) (h : j < n) : (bools f n)[j]? = some (.bool (f j)) := by simp [bools, h]
theorem bools_set (f : Nat → Bool) (n j : Nat) : (bools f n).set j (.bool true) = bools (fun i => f i || i == j) n := by
  apply List.ext_getElem?
  intro i
  unfold bools
  rw [List.getElem?_set]
  by_cases h : i < n
  · by_cases e : j = i
    · subst e; simp [h]
    · simp [h, e, show ¬ i = j from fun h => e h.symm]
  · by_cases e : j = i
    · subst e; simp [h]
    · simp [h, e]
theorem bools_more (f : Nat → Bool) (n k : Nat) (hf : ∀ j, n ≤ j → f j = false) : bools f n ++ List.replicate k (.bool false) = bools f (n + k) := by
  apply List.ext_getElem?
  intro i
  unfold bools
  by_cases h : i < n
  · rw [List.getElem?_append_left (by simpa using h)]
    simp [h, show i < n + k from by omega]
  · rw [List.getElem?_append_right (by simpa using h)]
    by_cases h2 : i < n + k
    · simp [h2, show i - n < k from by omega, hf i (by omega), List.getElem?_replicate]
    · simp [h2, List.getElem?_replicate, show ¬ i - n < k from by omega]

theorem own_slice {w : World} {B : Nat} {e : TypeId} {v : Value} {n : Nat} {xs : List Value} (h : w.ownsRow B e 1 v n xs) : ∃ a c, v = .slice a n c := by
  rcases h.2 with ⟨rfl, rfl⟩ | ⟨g, cap, cur, hv, _⟩
  · exact ⟨none, 0, rfl⟩
  · exact ⟨_, cap, hv⟩
theorem own_blk {w : World} {B : Nat} {e : TypeId} {v : Value} {n : Nat} {xs : List Value} (h : w.ownsRow B e 1 v n xs) (k : Nat) (hk : v.ownBlock = some k) : ∃ cur, w.heap[k]? = some (.cells cur e (0, 0)) := by
  rcases h.2 with ⟨rfl, rfl⟩ | ⟨g, cap, cur, rfl, _, hg, _⟩
  · cases hk
  · simp [Value.ownBlock] at hk
    subst hk
    exact ⟨cur, hg⟩
theorem own_formN {w : World} {B : Nat} {e : TypeId} {v : Value} {n : Nat} {xs : List Value} (h : w.ownsRow B e 1 v n xs) (hn : 0 < n) : ∃ g cap, v = .slice (some ⟨g, 0, none⟩) n cap ∧ n ≤ cap := by
  rcases h.2 with ⟨_, h2⟩ | ⟨g, cap, cur, hv, _, _, hle, _⟩
  · omega
  · exact ⟨g, cap, hv, hle⟩

theorem step_append_two {P : Program} {ops : Array Oper} {o : Oper} {a : Act} {w : World} {K : Act → World → Prop} {Q : Exit → Act → World → Prop} {E : Prop}
    (hg : o.guard = none) (s x : Operand) (t t' : TypeId) (hop : o.op = Op.call { callee := Callee.builtin Builtin.append, args := #[s, x], argTypes := #[t, t'] })
    (v u v' : Value) (w' : World) (hs : a.eval s = v) (hx : a.eval x = u) (hrun : (Builtin.append_ #[t, t'] o.type #[v, u]).run P w = .ok v' w') (hK : K (a.put o.dst v') w') :
    if Region.wanted o (yielded ops a.tmps) = true then Oper.wp P o a w K Q else E := by
  have hw : Region.wanted o (yielded ops a.tmps) = true := by simp [Region.wanted, hg]
  rw [if_pos hw]
  unfold Oper.wp
  simp [execOp, hop, resolve, invoke, builtin, hs, hx, hrun, Result.andThen]
  exact hK

section
variable {w w' : World} {B T g cap M : Nat} {r h : Value} {str : Nat → ByteArray} {es : Array MapEntry} {clock : Nat} {t : Tr}
/-- A row of bools lies apart from the trie's three blocks. -/
theorem Own.apart (o : Own w B T g cap M r h str es clock t) {v : Value} {n : Nat} {xs : List Value} (hv : w.ownsRow B 4 1 v n xs) (k : Nat) (hk : v.ownBlock = some k) : k ≠ T ∧ k ≠ g ∧ k ≠ M := by
  obtain ⟨cur, hc⟩ := own_blk hv k hk
  obtain ⟨cur', hg, _⟩ := o.rowBlk
  refine ⟨fun e => ?_, fun e => ?_, fun e => ?_⟩
  · rw [e, o.blk] at hc; simp at hc
  · rw [e, hg] at hc; simp at hc
  · rw [e, o.map] at hc; simp at hc

theorem Own.grown (o : Own w B T g cap M r h str es clock t) {row : Option Nat} (gr : w.grownBy w' row) (hr : ∀ k, row = some k → k ≠ T ∧ k ≠ g ∧ k ≠ M) : Own w' B T g cap M r h str es clock t := by
  obtain ⟨cur, hg, _⟩ := o.rowBlk
  refine o.keep fun k hk => gr.block k ?_ ?_
  · rcases hk with rfl | rfl | rfl
    · exact (Array.getElem?_eq_some_iff.1 o.blk).1
    · exact (Array.getElem?_eq_some_iff.1 hg).1
    · exact (Array.getElem?_eq_some_iff.1 o.map).1
  · intro e
    have := hr k e.symm
    rcases hk with rfl | rfl | rfl
    · exact this.1 rfl
    · exact this.2.1 rfl
    · exact this.2.2 rfl

/-- s.host = v. -/
theorem Own.setH (o : Own w B T g cap M r h str es clock t) (v : Value) : Own (w.setCell ⟨T, 1, none⟩ v) B T g cap M r v str es clock t := by
  have gs := gb_set w ⟨T, 1, none⟩ v
  refine ⟨?_, o.row.kept gs (.inr (by simpa [Value.ownBlock] using fun e => o.tg e.symm)), (gs.block M (Array.getElem?_eq_some_iff.1 o.map).1 (by simpa using fun e => o.tm e.symm)).trans o.map, o.pv⟩
  rw [heap_setCell_same w T 1 _ 76 _ o.blk]
  rfl
end

/-- The splitter: its run, its hosts, its trie. -/
structure Spl (w : World) (B T R M : Nat) (nm : Nat → ByteArray) (seen : Nat → Bool) (n i : Nat) (hv : Value) (g cap : Nat) (str : Nat → ByteArray) (es : Array MapEntry) (clock : Nat) (t : Tr) : Prop where
  own : Own w B T g cap M (.pointer (some ⟨R, 0, none⟩)) hv str es clock t
  host : w.ownsRow B 4 1 hv n (bools seen n)
  fine : Fine t
  has : ∀ j, seen j = true → 0 ≤ lq (nm j) → Has t ((bl (nm j)).take (lq (nm j) + 1).toNat)
  none_ : (∀ j, seen j = true → lq (nm j) < 0) → t.N = 1 ∧ es = #[]
  few : t.N ≤ 1 + 2 * i
  out : ∀ j, n ≤ j → seen j = false
  base : B ≤ w.heap.size

/-- The run's names, as they lie below the splitter. -/
structure Nms (w : World) (B R ns nN : Nat) (nm : Nat → ByteArray) : Prop where
  run : ∃ ncap, w.cell? ⟨R, 1, none⟩ = some (.slice (some ⟨ns, 0, none⟩) nN ncap) ∧ nN ≤ ncap
  name : ∀ j, j < nN → w.cell? ⟨ns, j, none⟩ = some (.string (nm j))
  low : R < B ∧ ns < B
  short : ∀ j, j < nN → (nm j).size ≤ 281474976710000
  few : nN ≤ 256

end Go.Proofs.Ybulkalji
