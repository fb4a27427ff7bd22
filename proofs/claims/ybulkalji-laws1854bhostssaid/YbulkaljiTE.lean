import Derived.Test.YbulkaljiTD
namespace Go.Proofs.Ybulkalji
open Go.RowKit
set_option linter.unusedVariables false
set_option linter.unusedSimpArgs false

/-- All blocks but three are as they were. -/
structure Chg (w w' : World) (T g M : Nat) : Prop where
  os : w'.os = w.os
  tape : w'.tape = w.tape
  output : w'.output = w.output
  size : w.heap.size ≤ w'.heap.size
  block : ∀ k, k < w.heap.size → k ≠ T → k ≠ g → k ≠ M → w'.heap[k]? = w.heap[k]?

theorem Chg.grown {w W W' : World} {T g M x : Nat} (h : Chg w W T g M) (gr : W.grownBy W' (some x)) (hx : x = T ∨ x = g ∨ x = M ∨ w.heap.size ≤ x) : Chg w W' T g M :=
  ⟨gr.os.trans h.os, gr.tape.trans h.tape, gr.output.trans h.output, Nat.le_trans h.size gr.size, fun k hk h1 h2 h3 => (gr.block k (Nat.lt_of_lt_of_le hk h.size) (by simp only [ne_eq, Option.some.injEq]; omega)).trans (h.block k hk h1 h2 h3)⟩
theorem Chg.grown0 {w W W' : World} {T g M : Nat} (h : Chg w W T g M) (gr : W.grownBy W' none) : Chg w W' T g M := h.grown (gr.but (some T)) (.inl rfl)
theorem Chg.of_below {w W : World} {T g M : Nat} (h : Below w.heap.size w W) : Chg w W T g M := ⟨h.os, h.tape, h.output, h.size, fun k hk _ _ _ => h.block k hk⟩

/-- add, on its way. -/
structure Mid (w : World) (B T g0 M : Nat) (r h : Value) (A p nd a : Nat) (W : World) (g cap : Nat) (str : Nat → ByteArray) (es : Array MapEntry) (clock : Nat) (t : Tr) : Prop where
  own : Own W B T g cap M r h str es clock t
  box : W.heap[A]? = some (.cells #[.int .u32 p, .int .u32 nd, .int .i64 a] 80 (0, 0))
  new : w.heap.size ≤ A
  chg : Chg w W T g0 M
  at_ : g = g0 ∨ w.heap.size ≤ g

section
variable {w W : World} {B T g0 M : Nat} {r h : Value} {A p nd a : Nat} {g cap : Nat} {str : Nat → ByteArray} {es : Array MapEntry} {clock : Nat} {t : Tr}

theorem Mid.at_ne (m : Mid w B T g0 M r h A p nd a W g cap str es clock t) : A ≠ T ∧ A ≠ g ∧ A ≠ M := by
  obtain ⟨cur, hg, _⟩ := m.own.rowBlk
  refine ⟨fun e => ?_, fun e => ?_, fun e => ?_⟩
  · have := m.box
    rw [e, m.own.blk] at this
    simp at this
  · have := m.box
    rw [e, hg] at this
    simp at this
  · have := m.box
    rw [e, m.own.map] at this
    simp at this

theorem Mid.drew (m : Mid w B T g0 M r h A p nd a W g cap str es clock t) : Mid w B T g0 M r h A p nd a W.drew g cap str es clock t :=
  ⟨m.own.keep fun _ _ => rfl, m.box, m.new, m.chg.grown0 (gb_drew W), m.at_⟩
theorem Mid.drewN (m : Mid w B T g0 M r h A p nd a W g cap str es clock t) (n : Nat) : Mid w B T g0 M r h A p nd a (W.drewN n) g cap str es clock t :=
  ⟨m.own.keep fun _ _ => rfl, m.box, m.new, m.chg.grown0 ⟨rfl, rfl, rfl, Nat.le_refl _, fun _ _ _ => rfl⟩, m.at_⟩

/-- The cells that add reads and writes. -/
structure MCells (T g M A p nd a N cap : Nat) (W : World) : Prop where
  t2 : W.cell? ⟨T, 2, none⟩ = some (.slice (some ⟨g, 0, none⟩) N cap)
  t3 : W.cell? ⟨T, 2 + 1, none⟩ = some (.map (some M))
  t3' : W.cell? ⟨T, 3, none⟩ = some (.map (some M))
  ft2 : W.frozen? ⟨T, 2, none⟩ = false
  b0 : W.cell? ⟨A, 0, none⟩ = some (.int .u32 p)
  b1 : W.cell? ⟨A, 1, none⟩ = some (.int .u32 nd)
  b2 : W.cell? ⟨A, 2, none⟩ = some (.int .i64 a)
  fb1 : W.frozen? ⟨A, 1, none⟩ = false
theorem Mid.cells (m : Mid w B T g0 M r h A p nd a W g cap str es clock t) : MCells T g M A p nd a t.N cap W :=
  ⟨(blk_cell m.own.blk 2).trans rfl, (blk_cell m.own.blk 3).trans rfl, (blk_cell m.own.blk 3).trans rfl, blk_frozen m.own.blk 2, (blk_cell m.box 0).trans rfl, (blk_cell m.box 1).trans rfl, (blk_cell m.box 2).trans rfl, blk_frozen m.box 1⟩
theorem Mid.edge (m : Mid w B T g0 M r h A p nd a W g cap str es clock t) {k : Nat} (hk : k < t.N) : W.cell? ⟨g, k, none⟩ = some (.string (str k)) := m.own.rep.edges k hk

theorem Mid.setK (m : Mid w B T g0 M r h A p nd a W g cap str es clock t) {n q : Nat} (hn : n < 16777216) (c : UInt8) : ∃ es' clock' W', (Instr.mapUpdate 71 (.map (some M)) (.int .u64 ((n : Int) * 256 + (c.toNat : Int))) (.int .u32 q)).run Yba.prog W.drew = .ok () W' ∧
    Mid w B T g0 M r h A p nd a W' g cap str es' clock' (Ybulkalji.setK t n c q) := by
  obtain ⟨es', clock', hrun, ho, gr⟩ := m.drew.own.setK (q := q) hn c
  refine ⟨es', clock', _, hrun, ho, ?_, m.new, m.drew.chg.grown gr (.inr (.inr (.inl rfl))), m.at_⟩
  exact (gr.block A (Array.getElem?_eq_some_iff.1 m.drew.box).1 (by simpa using m.at_ne.2.2)).trans m.box

theorem Mid.setE (m : Mid w B T g0 M r h A p nd a W g cap str es clock t) {n : Nat} (hn : n < t.N) {x : ByteArray} (hx : x.size ≤ 281474976710656) : Mid w B T g0 M r h A p nd a (W.setCell ⟨g, n, none⟩ (.string x)) g cap (fun i => if i = n then x else str i) es clock (Ybulkalji.setE t n (bl x)) := by
  have gr := gb_set W ⟨g, n, none⟩ (.string x)
  refine ⟨m.own.setE hn hx, ?_, m.new, m.chg.grown gr ?_, m.at_⟩
  · exact (gr.block A (Array.getElem?_eq_some_iff.1 m.box).1 (by simpa using m.at_ne.2.1)).trans m.box
  · rcases m.at_ with e | e
    · exact .inr (.inl e)
    · exact .inr (.inr (.inr e))

theorem Mid.setN (m : Mid w B T g0 M r h A p nd a W g cap str es clock t) (q : Nat) : Mid w B T g0 M r h A p q a (W.setCell ⟨A, 1, none⟩ (.int .u32 q)) g cap str es clock t := by
  have gr := gb_set W ⟨A, 1, none⟩ (.int .u32 q)
  obtain ⟨h1, h2, h3⟩ := m.at_ne
  refine ⟨m.own.keep fun k hk => heap_setCell_other W ⟨A, 1, none⟩ k _ ?_, ?_, m.new, m.chg.grown gr (.inr (.inr (.inr m.new))), m.at_⟩
  · rcases hk with rfl | rfl | rfl
    · exact fun e => h1 e.symm
    · exact fun e => h2 e.symm
    · exact fun e => h3 e.symm
  · rw [heap_setCell_same W A 1 _ 80 _ m.box]
    rfl

theorem Mid.addE (m : Mid w B T g0 M r h A p nd a W g cap str es clock t) (hB : B ≤ w.heap.size) (hN : t.N < 100000) {x : ByteArray} (hx : x.size ≤ 281474976710656) :
    ∃ g' cap' w2, (Builtin.append_ #[52, 52] 52 #[.slice (some ⟨g, 0, none⟩) t.N cap, .slice (some ⟨W.heap.size, 0, none⟩) 1 1]).run Yba.prog (W.drew.alloc (.cells #[.string x] 9)) = .ok (.slice (some ⟨g', 0, none⟩) (t.N + 1) cap') w2 ∧
      w2.cell? ⟨T, 2, none⟩ = some (.slice (some ⟨g, 0, none⟩) t.N cap) ∧ w2.frozen? ⟨T, 2, none⟩ = false ∧
      Mid w B T g0 M r h A p nd a (w2.setCell ⟨T, 2, none⟩ (.slice (some ⟨g', 0, none⟩) (t.N + 1) cap')) g' cap' (fun i => if i = t.N then x else str i) es clock (Ybulkalji.addE t (bl x)) := by
  obtain ⟨g', cap', w2, hrun, hT, ho, gr, hg'⟩ := m.drew.own.addE (Nat.le_trans hB m.drew.chg.size) hN hx
  have gs := gb_set w2 ⟨T, 2, none⟩ (.slice (some ⟨g', 0, none⟩) (t.N + 1) cap')
  have hA := (gr.block A (Array.getElem?_eq_some_iff.1 m.drew.box).1 (by simpa using m.at_ne.2.1)).trans m.drew.box
  refine ⟨g', cap', w2, hrun, (blk_cell hT 2).trans rfl, blk_frozen hT 2, ho, ?_, m.new, (m.drew.chg.grown gr ?_).grown gs (.inl rfl), ?_⟩
  · exact (gs.block A (Array.getElem?_eq_some_iff.1 hA).1 (by simpa using m.at_ne.1)).trans hA
  · rcases m.at_ with e | e
    · exact .inr (.inl e)
    · exact .inr (.inr (.inr e))
  · have hs := m.drew.chg.size
    rcases hg' with e | e
    · rw [e]; exact m.at_
    · exact .inr (Nat.le_trans hs e)
end

theorem step_append_raw {P : Program} {ops : Array Oper} {o : Oper} {a : Act} {w : World} {K : Act → World → Prop} {Q : Exit → Act → World → Prop} {E : Prop}
    (hg : o.guard = none) (s x : Operand) (t : TypeId) (hop : o.op = Op.call { callee := Callee.builtin Builtin.append, args := #[s, x], argTypes := #[t, t] })
    (v u v' : Value) (w' : World) (hs : a.eval s = v) (hx : a.eval x = u) (hrun : (Builtin.append_ #[t, t] o.type #[v, u]).run P w = .ok v' w') (hK : K (a.put o.dst v') w') :
    if Region.wanted o (yielded ops a.tmps) = true then Oper.wp P o a w K Q else E := by
  have hw : Region.wanted o (yielded ops a.tmps) = true := by simp [Region.wanted, hg]
  rw [if_pos hw]
  unfold Oper.wp
  simp [execOp, hop, resolve, invoke, builtin, hs, hx, hrun, Result.andThen]
  exact hK

/-- What add leaves. -/
def Added (w : World) (B T g M : Nat) (r h : Value) (t : Tr) (s : ByteArray) (w' : World) : Prop :=
  ∃ g' cap' str' es' clock' t', Own w' B T g' cap' M r h str' es' clock' t' ∧ More t t' ∧ Has t' (bl s) ∧ t'.N ≤ t.N + 2 ∧ Chg w w' T g M ∧ (g' = g ∨ w.heap.size ≤ g')

end Go.Proofs.Ybulkalji
