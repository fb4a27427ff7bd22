import Derived.Test.YbulkaljiTC
import Derived.Maps.AppendAt
import Derived.Deep.RegionLaw
namespace Go.Proofs.Ybulkalji
open Go.RowKit
set_option linter.unusedVariables false
set_option linter.unusedSimpArgs false

def strs (str : Nat → ByteArray) (N : Nat) : List Value := (List.range N).map fun k => .string (str k)
theorem strs_len (str : Nat → ByteArray) (N : Nat) : (strs str N).length = N := by simp [strs]
theorem strs_get (str : Nat → ByteArray) (N j : Nat) (h : j < N) : (strs str N)[j]? = some (.string (str j)) := by simp [strs, h]
theorem strs_push (str : Nat → ByteArray) (N : Nat) (x : ByteArray) : strs str N ++ [.string x] = strs (fun i => if i = N then x else str i) (N + 1) := by
  unfold strs
  rw [List.range_succ, List.map_append]
  congr 1
  · exact List.map_congr_left fun k hk => by simp [show ¬ k = N from by have := List.mem_range.1 hk; omega]
  · simp
theorem strs_set (str : Nat → ByteArray) (N j : Nat) (x : ByteArray) : (strs str N).set j (.string x) = strs (fun i => if i = j then x else str i) N := by
  apply List.ext_getElem?
  intro i
  unfold strs
  rw [List.getElem?_set]
  by_cases h : i < N
  · by_cases e : j = i
    · subst e; simp [h]
    · simp [h, e, show ¬ i = j from fun h => e h.symm]
  · by_cases e : j = i
    · subst e; simp [h]
    · simp [h, e]

theorem gb_drew (w : World) : w.grownBy w.drew none := ⟨rfl, rfl, rfl, Nat.le_refl _, fun _ _ _ => rfl⟩
theorem gb_alloc (w : World) (o : Obj) : w.grownBy (w.alloc o) none := ⟨rfl, rfl, rfl, by simp, fun i hi _ => Below.heap_alloc w o i hi⟩
theorem gb_set (w : World) (a : Addr) (v : Value) : w.grownBy (w.setCell a v) (some a.block) := ⟨rfl, rfl, rfl, by simp, fun i hi hne => heap_setCell_other w a i v (fun e => hne (by rw [e]))⟩

/-- A trie's data turned. -/
def addE (t : Tr) (l : List UInt8) : Tr := { N := t.N + 1, e := fun i => if i = t.N then l else t.e i, k := t.k }
def setK (t : Tr) (n : Nat) (c : UInt8) (q : Nat) : Tr := { N := t.N, e := t.e, k := fun n' c' => if n' = n ∧ c' = c then some q else t.k n' c' }
def setE (t : Tr) (n : Nat) (l : List UInt8) : Tr := { N := t.N, e := fun i => if i = n then l else t.e i, k := t.k }

theorem leaf_eq (t : Tr) (nd : Nat) (c : UInt8) (r : List UInt8) : leaf t nd c r = addE (setK t nd c t.N) (c :: r) := rfl
theorem split_eq {t : Tr} {p nd : Nat} {g f : UInt8} {l1 l2 : List UInt8} (h : nd < t.N) : split t p nd g l1 f l2 = setE (setK (setK (addE t l1) p g t.N) t.N f nd) nd (f :: l2) := by
  simp only [split, setE, setK, addE, Tr.mk.injEq, true_and]
  constructor
  · funext i
    by_cases e : i = t.N
    · simp [e, show ¬ t.N = nd from by omega]
    · simp [e]
  · trivial

/-- What is said of the data, memory apart. -/
structure Pv (str : Nat → ByteArray) (es : Array MapEntry) (t : Tr) : Prop where
  bytes : ∀ k, k < t.N → bl (str k) = t.e k
  short : ∀ k, k < t.N → (str k).size ≤ 281474976710656
  keys : IntKeys .u64 es.toList
  kids : ∀ n c, n < 16777216 → look es ((n * 256 + c.toNat : Nat) : Int) = (t.k n c).map fun k => .int .u32 k
  small : t.N ≤ 100000

/-- The splitter and its trie, the call's own. -/
structure Own (w : World) (B T g cap M : Nat) (r h : Value) (str : Nat → ByteArray) (es : Array MapEntry) (clock : Nat) (t : Tr) : Prop where
  blk : w.heap[T]? = some (.cells #[r, h, .slice (some ⟨g, 0, none⟩) t.N cap, .map (some M), .slice none 0 0, .slice none 0 0] 76 (0, 0))
  row : w.ownsRow B 9 1 (.slice (some ⟨g, 0, none⟩) t.N cap) t.N (strs str t.N)
  map : w.heap[M]? = some (.map es clock)
  pv : Pv str es t

section
variable {w w' : World} {B T g cap M : Nat} {r h : Value} {str : Nat → ByteArray} {es : Array MapEntry} {clock : Nat} {t : Tr}

theorem Own.rowBlk (o : Own w B T g cap M r h str es clock t) : ∃ cur, w.heap[g]? = some (.cells cur 9 (0, 0)) ∧ B ≤ g ∧ t.N ≤ cap := by
  rcases o.row.2 with ⟨h, _⟩ | ⟨g', cap', cur, hv, hb, hg, hle, _⟩
  · cases h
  · simp only [Value.slice.injEq, Option.some.injEq, Addr.mk.injEq, and_true, true_and] at hv
    obtain ⟨rfl, rfl⟩ := hv
    exact ⟨cur, hg, hb, hle⟩
theorem Own.tg (o : Own w B T g cap M r h str es clock t) : T ≠ g := by
  intro e
  obtain ⟨cur, h1, _⟩ := o.rowBlk
  rw [← e, o.blk] at h1
  simp at h1
theorem Own.tm (o : Own w B T g cap M r h str es clock t) : T ≠ M := by
  intro e
  have h1 := o.map
  rw [← e, o.blk] at h1
  simp at h1
theorem Own.gm (o : Own w B T g cap M r h str es clock t) : g ≠ M := by
  intro e
  obtain ⟨cur, h1, _⟩ := o.rowBlk
  rw [e, o.map] at h1
  simp at h1

theorem Own.rep (o : Own w B T g cap M r h str es clock t) : Rep w T 2 g cap M str es clock t :=
  ⟨(blk_cell o.blk 2).trans rfl, (blk_cell o.blk 3).trans rfl, fun k hk => (o.row.cellAt k (by omega)).trans (strs_get str t.N k hk), o.pv.bytes, o.pv.short, o.map, o.pv.keys, o.pv.kids, by have := o.pv.small; omega⟩

/-- What leaves the three blocks alone leaves the whole alone. -/
theorem Own.keep (o : Own w B T g cap M r h str es clock t) (hk : ∀ k, k = T ∨ k = g ∨ k = M → w'.heap[k]? = w.heap[k]?) : Own w' B T g cap M r h str es clock t := by
  obtain ⟨cur, hg, hb, hle⟩ := o.rowBlk
  refine ⟨(hk T (.inl rfl)).trans o.blk, ?_, (hk M (.inr (.inr rfl))).trans o.map, o.pv⟩
  rcases o.row with ⟨h1, h2⟩
  refine ⟨h1, ?_⟩
  rcases h2 with h2 | ⟨g', cap', cur', hv, rest, hg', more⟩
  · exact .inl h2
  · refine .inr ⟨g', cap', cur', hv, rest, ?_, more⟩
    simp only [Value.slice.injEq, Option.some.injEq, Addr.mk.injEq, and_true, true_and] at hv
    rw [hk g' (.inr (.inl hv.1.symm))]
    exact hg'

theorem kidkey_inj {n m : Nat} {c d : UInt8} : ((n * 256 + c.toNat : Nat) : Int) = ((m * 256 + d.toNat : Nat) : Int) ↔ n = m ∧ c = d := by
  have hc := c.toNat_lt
  have hd := d.toNat_lt
  constructor
  · intro e
    have : n * 256 + c.toNat = m * 256 + d.toNat := by omega
    exact ⟨by omega, UInt8.toNat_inj.1 (by omega)⟩
  · rintro ⟨rfl, rfl⟩; rfl

/-- kids[kidKey(n, c)] = q. -/
theorem Own.setK (o : Own w B T g cap M r h str es clock t) {n q : Nat} (hn : n < 16777216) (c : UInt8) : ∃ es' clock', (Instr.mapUpdate 71 (.map (some M)) (.int .u64 ((n : Int) * 256 + (c.toNat : Int))) (.int .u32 q)).run Yba.prog w = .ok () (ChangeMaps.setBlock w M (.map es' clock')) ∧
    Own (ChangeMaps.setBlock w M (.map es' clock')) B T g cap M r h str es' clock' (setK t n c q) ∧ w.grownBy (ChangeMaps.setBlock w M (.map es' clock')) (some M) := by
  obtain ⟨es', clock', hrun, hk, hl⟩ := kids_set o.map o.pv.keys ((n : Int) * 256 + (c.toNat : Int)) (.int .u32 q)
  obtain ⟨gr, sz, hM⟩ := grown_set (o' := .map es' clock') o.map
  refine ⟨es', clock', hrun, ?_, gr⟩
  refine ⟨(gr.block T (Array.getElem?_eq_some_iff.1 o.blk).1 (by simpa using o.tm)).trans o.blk, o.row.kept gr (.inr (by simpa [Value.ownBlock] using o.gm)), hM, ⟨o.pv.bytes, o.pv.short, hk, fun m d hm => ?_, o.pv.small⟩⟩
  rw [hl, show ((n : Int) * 256 + (c.toNat : Int)) = ((n * 256 + c.toNat : Nat) : Int) from by omega]
  simp only [Ybulkalji.setK]
  by_cases e : m = n ∧ d = c
  · rw [if_pos (kidkey_inj.2 e), if_pos e]; rfl
  · rw [if_neg (fun h => e (kidkey_inj.1 h)), if_neg e, o.pv.kids m d hm]

/-- edges[n] = x. -/
theorem Own.setE (o : Own w B T g cap M r h str es clock t) {n : Nat} (hn : n < t.N) {x : ByteArray} (hx : x.size ≤ 281474976710656) : Own (w.setCell ⟨g, n, none⟩ (.string x)) B T g cap M r h (fun i => if i = n then x else str i) es clock (setE t n (bl x)) := by
  have gr := gb_set w ⟨g, n, none⟩ (.string x)
  refine ⟨(gr.block T (Array.getElem?_eq_some_iff.1 o.blk).1 (by simpa using o.tg)).trans o.blk, ?_, (gr.block M (Array.getElem?_eq_some_iff.1 o.map).1 (by simpa using fun e => o.gm e.symm)).trans o.map, ⟨fun k hk => ?_, fun k hk => ?_, o.pv.keys, o.pv.kids, o.pv.small⟩⟩
  · have := o.row.stored n (.string x)
    rw [strs_set] at this
    exact this.1
  · simp only [Ybulkalji.setE]
    by_cases e : k = n
    · simp [e]
    · simp only [e, if_false]; exact o.pv.bytes k hk
  · by_cases e : k = n
    · simp [e, hx]
    · simp only [e, if_false]; exact o.pv.short k hk

theorem info9 : (Yba.prog.info? 9).map (fun i => (i.zero, i.size, i.bytes)) = some (some (.string ⟨#[]⟩), 1, 16) := by kernel_rfl

/-- edges = append(edges, x), and the store. -/
theorem Own.addE (o : Own w B T g cap M r h str es clock t) (hB : B ≤ w.heap.size) (hN : t.N < 100000) {x : ByteArray} (hx : x.size ≤ 281474976710656) :
    ∃ g' cap' w2, (Builtin.append_ #[52, 52] 52 #[.slice (some ⟨g, 0, none⟩) t.N cap, .slice (some ⟨w.heap.size, 0, none⟩) 1 1]).run Yba.prog (w.alloc (.cells #[.string x] 9)) = .ok (.slice (some ⟨g', 0, none⟩) (t.N + 1) cap') w2 ∧
      w2.heap[T]? = some (.cells #[r, h, .slice (some ⟨g, 0, none⟩) t.N cap, .map (some M), .slice none 0 0, .slice none 0 0] 76 (0, 0)) ∧
      Own (w2.setCell ⟨T, 2, none⟩ (.slice (some ⟨g', 0, none⟩) (t.N + 1) cap')) B T g' cap' M r h (fun i => if i = t.N then x else str i) es clock (addE t (bl x)) ∧
      w.grownBy w2 (some g) ∧ (g' = g ∨ w.heap.size ≤ g') := by
  obtain ⟨i0, hi, hz0, hz1, hz2⟩ := info_parts info9
  have ga := gb_alloc w (.cells #[.string x] 9)
  have hrow : (w.alloc (.cells #[.string x] 9)).ownsRow B 9 1 (.slice (some ⟨g, 0, none⟩) t.N cap) t.N (strs str t.N) := o.row.kept ga (.inr (by simp [Value.ownBlock]))
  obtain ⟨v', w2, hrun, hown, gr, hnil, hloc⟩ := run_append_own_at (P := Yba.prog) (w.alloc (.cells #[.string x] 9)) B 52 52 9 i0 (.string ⟨#[]⟩) 1 16 Yba.underlying52 hi hz0 hz1 hz2 rfl (by decide) _ _ _ hrow ⟨w.heap.size, 0, none⟩ 1 1 [.string x] rfl
    (fun j u hj => by
      match j with
      | 0 => simp at hj; subst hj; simp [Addr.add]
      | j + 1 => simp at hj) (by intro u hu; simp at hu; subst hu; rfl) (by unfold maxLen; omega) (by omega) (by simp; omega)
  obtain ⟨g', cap', rfl⟩ : ∃ g' cap', v' = .slice (some ⟨g', 0, none⟩) (t.N + 1) cap' := by
    rcases hown.2 with ⟨_, h2⟩ | ⟨g', cap', cur, hv, _⟩
    · omega
    · exact ⟨g', cap', hv⟩
  have gr1 : w.grownBy w2 (some g) := (ga.but (some g)).trans gr
  have hT := (gr1.block T (Array.getElem?_eq_some_iff.1 o.blk).1 (by simpa using o.tg)).trans o.blk
  have hM := (gr1.block M (Array.getElem?_eq_some_iff.1 o.map).1 (by simpa using fun e => o.gm e.symm)).trans o.map
  refine ⟨g', cap', w2, hrun, hT, ?_, gr1, ?_⟩
  · have gs := gb_set w2 ⟨T, 2, none⟩ (.slice (some ⟨g', 0, none⟩) (t.N + 1) cap')
    have htg' : g' ≠ T := by
      intro e
      rcases hown.2 with ⟨_, h2⟩ | ⟨g'', cap'', cur, hv, _, hg, _⟩
      · omega
      · simp only [Value.slice.injEq, Option.some.injEq, Addr.mk.injEq, and_true, true_and] at hv
        rw [← hv.1, e, hT] at hg
        simp at hg
    refine ⟨?_, ?_, (gs.block M (Array.getElem?_eq_some_iff.1 hM).1 (by simpa using fun e => o.tm e.symm)).trans hM, ⟨fun k hk => ?_, fun k hk => ?_, o.pv.keys, o.pv.kids, by simp only [Ybulkalji.addE]; omega⟩⟩
    · rw [heap_setCell_same w2 T 2 _ 76 _ hT]
      rfl
    · have := hown.kept gs (.inr (by simpa [Value.ownBlock] using htg'))
      rw [strs_push] at this
      exact this
    · simp only [Ybulkalji.addE] at hk ⊢
      by_cases e : k = t.N
      · simp [e]
      · simp only [e, if_false]; exact o.pv.bytes k (by omega)
    · simp only [Ybulkalji.addE] at hk
      by_cases e : k = t.N
      · simp [e, hx]
      · simp only [e, if_false]; exact o.pv.short k (by omega)
  · rcases hloc with hloc | hloc
    · simp [Value.ownBlock] at hloc; exact .inl hloc
    · simp [Value.ownBlock] at hloc; exact .inr (by omega)
end
end Go.Proofs.Ybulkalji
