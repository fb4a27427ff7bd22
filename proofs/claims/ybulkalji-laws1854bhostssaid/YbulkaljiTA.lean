import Derived.Below
/-! The plain law of the trie: no Go in sight. -/
namespace Go.Proofs.Ybulkalji
set_option linter.unusedVariables false
set_option linter.unusedSimpArgs false

/-- A trie: nodes 0 .. N - 1, each with its edge; the kids by node and byte. -/
structure Tr where
  N : Nat
  e : Nat → List UInt8
  k : Nat → UInt8 → Option Nat

/-- Where a walk is: parent, node, how far into the node's edge. -/
abbrev Pt := Nat × Nat × Nat

def stp (t : Tr) (x : Pt) (c : UInt8) : Option Pt :=
  if x.2.2 < (t.e x.2.1).length then (if (t.e x.2.1)[x.2.2]? = some c then some (x.1, x.2.1, x.2.2 + 1) else none)
  else (t.k x.2.1 c).map fun q => (x.2.1, q, 1)

def run (t : Tr) : Pt → List UInt8 → Option Pt
  | x, [] => some x
  | x, c :: r => (stp t x c).bind fun y => run t y r

theorem run_append (t : Tr) : ∀ (a b : List UInt8) (x : Pt), run t x (a ++ b) = (run t x a).bind fun y => run t y b
  | [], b, x => by simp [run]
  | c :: a, b, x => by
    simp only [List.cons_append, run]
    cases h : stp t x c with
    | none => simp
    | some y => simp [run_append t a b y]

def root : Pt := (0, 0, 0)

/-- The walk reads s whole. -/
def Has (t : Tr) (s : List UInt8) : Prop := ∃ y, run t root s = some y

theorem Has.prefix {t : Tr} {a b : List UInt8} (h : Has t (a ++ b)) : Has t a := by
  obtain ⟨y, hy⟩ := h
  rw [run_append] at hy
  cases h1 : run t root a with
  | none => rw [h1] at hy; simp at hy
  | some z => exact ⟨z, h1⟩

/-- Where the walk stopped short, the string is not read whole. -/
theorem Has.not_stop {t : Tr} {a r : List UInt8} {c : UInt8} {x : Pt} (h : Has t (a ++ c :: r)) (h1 : run t root a = some x) (h2 : stp t x c = none) : False := by
  obtain ⟨y, hy⟩ := h
  rw [run_append, h1] at hy
  simp [run, h2] at hy

/-- Each node stands below its parent, and holds its parent's path and its own edge. -/
structure Good (t : Tr) (par : Nat → Nat) (path : Nat → List UInt8) : Prop where
  pos : 0 < t.N
  root : t.e 0 = []
  path0 : path 0 = []
  up : ∀ k, 0 < k → k < t.N → par k < t.N
  edge : ∀ k, 0 < k → k < t.N → ∃ c r, t.e k = c :: r ∧ t.k (par k) c = some k
  path : ∀ k, 0 < k → k < t.N → path k = path (par k) ++ t.e k
  kid : ∀ n c k, t.k n c = some k → n < t.N ∧ 0 < k ∧ k < t.N ∧ par k = n ∧ ∃ r, t.e k = c :: r

structure At (t : Tr) (par : Nat → Nat) (path : Nat → List UInt8) (x : Pt) (s : List UInt8) : Prop where
  lt : x.2.1 < t.N
  le : x.2.2 ≤ (t.e x.2.1).length
  par : 0 < x.2.1 → x.1 = par x.2.1 ∧ 0 < x.2.2
  str : s ++ (t.e x.2.1).drop x.2.2 = path x.2.1
  top : x.2.1 = 0 → x.1 = 0

variable {t : Tr} {par : Nat → Nat} {path : Nat → List UInt8}

theorem At.root (h : Good t par path) : At t par path root [] := ⟨h.pos, by simp [Ybulkalji.root], fun h0 => by simp [Ybulkalji.root] at h0, by simp [Ybulkalji.root, h.root, h.path0], fun _ => rfl⟩

theorem At.step (h : Good t par path) {x y : Pt} {s : List UInt8} {c : UInt8} (ha : At t par path x s) (hs : stp t x c = some y) : At t par path y (s ++ [c]) := by
  obtain ⟨p, n, a⟩ := x
  unfold stp at hs
  by_cases h1 : a < (t.e n).length
  · simp only [h1, if_true] at hs
    by_cases h2 : (t.e n)[a]? = some c
    · simp only [h2, if_true, Option.some.injEq] at hs
      subst hs
      have hg : (t.e n)[a] = c := by simpa [h1] using h2
      refine ⟨ha.lt, h1, fun h0 => ⟨(ha.par h0).1, by simp⟩, ?_, ha.top⟩
      have := ha.str
      simp only at this ⊢
      rw [List.drop_eq_getElem_cons h1, hg] at this
      simpa using this
    · simp only [h2, if_false] at hs
      cases hs
  · simp only [h1, if_false, Option.map_eq_some_iff] at hs
    obtain ⟨q, hq, rfl⟩ := hs
    obtain ⟨hn, hq0, hqN, hp, r, hr⟩ := h.kid n c q hq
    have hstr := ha.str
    simp only at hstr
    rw [List.drop_eq_nil_of_le (by omega), List.append_nil] at hstr
    refine ⟨hqN, by simp [hr], fun _ => ⟨hp.symm, by simp⟩, ?_, fun h0 => by simp only at h0; omega⟩
    simp only [hr]
    rw [h.path q hq0 hqN, hp, hr, ← hstr]
    simp

theorem At.run (h : Good t par path) : ∀ (b : List UInt8) {x y : Pt} {s : List UInt8}, At t par path x s → Ybulkalji.run t x b = some y → At t par path y (s ++ b)
  | [], x, y, s, ha, hr => by
    simp only [Ybulkalji.run, Option.some.injEq] at hr
    subst hr
    simpa using ha
  | c :: b, x, y, s, ha, hr => by
    simp only [Ybulkalji.run] at hr
    cases h1 : stp t x c with
    | none => rw [h1] at hr; simp at hr
    | some z =>
      rw [h1] at hr
      have := At.run h b (ha.step h h1) hr
      simpa using this

theorem run_edge (p n : Nat) : ∀ (l2 l1 : List UInt8), t.e n = l1 ++ l2 → run t (p, n, l1.length) l2 = some (p, n, (t.e n).length)
  | [], l1, h => by simp [run, h]
  | c :: l2, l1, h => by
    have hs : stp t (p, n, l1.length) c = some (p, n, l1.length + 1) := by
      unfold stp
      have h1 : l1.length < (t.e n).length := by rw [h]; simp
      have h2 : (t.e n)[l1.length]? = some c := by rw [h]; simp
      simp only [h1, h2, if_true]
    have := run_edge p n l2 (l1 ++ [c]) (by simp [h])
    simp only [run, hs, Option.bind_some]
    simpa using this

def last (t : Tr) (par : Nat → Nat) (k : Nat) : Pt := if k = 0 then root else (par k, k, (t.e k).length)
theorem last_node (h : Good t par path) (k : Nat) : (last t par k).2 = (k, (t.e k).length) := by
  unfold last
  by_cases h0 : k = 0
  · subst h0; simp [root, h.root]
  · simp [h0]

theorem run_path (h : Good t par path) : ∀ (m k : Nat), k < t.N → (path k).length ≤ m → run t root (path k) = some (last t par k)
  | m, k, hk, hm => by
    by_cases h0 : k = 0
    · subst h0
      simp [h.path0, run, last]
    · have hp := h.up k (by omega) hk
      obtain ⟨c, r, he, hkid⟩ := h.edge k (by omega) hk
      have hpath := h.path k (by omega) hk
      rw [hpath, run_append]
      have hlen : (path k).length = (path (par k)).length + (r.length + 1) := by rw [hpath, he]; simp
      match m with
      | 0 => omega
      | m + 1 =>
        rw [run_path h m (par k) hp (by omega)]
        simp only [Option.bind_some, he, run]
        have hl := last_node h (par k)
        have hs : stp t (last t par (par k)) c = some (par k, k, 1) := by
          unfold stp
          rw [hl]
          simp [hkid]
        rw [hs]
        have := run_edge (t := t) (par k) k r [c] (by simp [he])
        simp only [Option.bind_some]
        rw [show (par k, k, 1) = (par k, k, [c].length) from rfl, this]
        simp [last, h0]

theorem has_path (h : Good t par path) {k : Nat} (hk : k < t.N) : Has t (path k) := ⟨_, run_path h _ k hk (Nat.le_refl _)⟩

/-- What was read whole stays so, where the old nodes keep their paths. -/
theorem has_keep (h : Good t par path) {t' : Tr} {par' : Nat → Nat} {path' : Nat → List UInt8} (h' : Good t' par' path') (hN : t.N ≤ t'.N) (hp : ∀ k, k < t.N → path' k = path k) {s : List UInt8} (hs : Has t s) : Has t' s := by
  obtain ⟨y, hy⟩ := hs
  have ha := (At.root h).run h s hy
  have h1 := ha.str
  rw [← hp _ ha.lt] at h1
  have := has_path h' (k := y.2.1) (Nat.lt_of_lt_of_le ha.lt hN)
  rw [← h1] at this
  simp only [List.nil_append] at this
  exact this.prefix

/-- A new leaf below the node nd. -/
def leaf (t : Tr) (nd : Nat) (c : UInt8) (r : List UInt8) : Tr :=
  { N := t.N + 1, e := fun i => if i = t.N then c :: r else t.e i, k := fun n b => if n = nd ∧ b = c then some t.N else t.k n b }

theorem good_leaf (h : Good t par path) {p nd a : Nat} {q r : List UInt8} {c : UInt8} (ha : At t par path (p, nd, a) q) (hle : ¬ a < (t.e nd).length) (hk : t.k nd c = none) :
    Good (leaf t nd c r) (fun i => if i = t.N then nd else par i) (fun i => if i = t.N then q ++ c :: r else path i) := by
  have hnd : nd < t.N := ha.lt
  have hq : q = path nd := by
    have := ha.str
    simp only at this
    rw [List.drop_eq_nil_of_le (by omega)] at this
    simpa using this
  have hpos := h.pos
  refine ⟨by simp [leaf], ?_, ?_, ?_, ?_, ?_, ?_⟩
  · simp [leaf, show ¬ 0 = t.N from by omega, h.root]
  · simp [show ¬ 0 = t.N from by omega, h.path0]
  · intro k h0 hk1
    simp only [leaf] at hk1 ⊢
    by_cases e : k = t.N
    · simp [e]; omega
    · have := h.up k h0 (by omega)
      simp [e]; omega
  · intro k h0 hk1
    simp only [leaf] at hk1 ⊢
    by_cases e : k = t.N
    · exact ⟨c, r, by simp [e], by simp [e]⟩
    · obtain ⟨c1, r1, e1, e2⟩ := h.edge k h0 (by omega)
      refine ⟨c1, r1, by simp [e, e1], ?_⟩
      simp only [e, if_false]
      rw [if_neg, e2]
      rintro ⟨e3, e4⟩
      rw [e3, e4, hk] at e2
      cases e2
  · intro k h0 hk1
    simp only [leaf] at hk1 ⊢
    by_cases e : k = t.N
    · simp [e, show ¬ nd = t.N from by omega, hq]
    · have := h.up k h0 (by omega)
      simp [e, show ¬ par k = t.N from by omega, h.path k h0 (by omega)]
  · intro n b k hkk
    simp only [leaf] at hkk ⊢
    by_cases e : n = nd ∧ b = c
    · rw [if_pos e] at hkk
      cases hkk
      exact ⟨by omega, by omega, by omega, by simp [e.1], r, by simp [e.2]⟩
    · rw [if_neg e] at hkk
      obtain ⟨h1, h2, h3, h4, r1, h5⟩ := h.kid n b k hkk
      refine ⟨by omega, h2, by omega, by simp [show ¬ k = t.N from by omega, h4], r1, by simp [show ¬ k = t.N from by omega, h5]⟩

/-- A new node inside the edge of nd, which starts with g. -/
def split (t : Tr) (p nd : Nat) (g : UInt8) (l1 : List UInt8) (f : UInt8) (l2 : List UInt8) : Tr :=
  { N := t.N + 1, e := fun i => if i = t.N then l1 else if i = nd then f :: l2 else t.e i,
    k := fun n b => if n = t.N ∧ b = f then some nd else if n = p ∧ b = g then some t.N else t.k n b }

theorem good_split (h : Good t par path) {p nd a : Nat} {q l1 l2 : List UInt8} {g f : UInt8} (ha : At t par path (p, nd, a) q) (hl : l1.length + 1 = a) (he : t.e nd = g :: l1 ++ f :: l2) :
    Good (split t p nd g (g :: l1) f l2) (fun i => if i = t.N then p else if i = nd then t.N else par i) (fun i => if i = t.N then q else path i) ∧
      At (split t p nd g (g :: l1) f l2) (fun i => if i = t.N then p else if i = nd then t.N else par i) (fun i => if i = t.N then q else path i) (p, t.N, a) q := by
  have hnd : nd < t.N := ha.lt
  have hpos := h.pos
  have hnd0 : 0 < nd := by
    rcases Nat.eq_zero_or_pos nd with e | e
    · rw [e, h.root] at he; cases he
    · exact e
  have hp : p = par nd := (ha.par hnd0).1
  have hpN : p < t.N := by rw [hp]; exact h.up nd hnd0 hnd
  have hstr : q ++ (f :: l2) = path nd := by
    have := ha.str
    simp only at this
    rw [he, ← hl] at this
    simpa using this
  have hkn : t.k p g = some nd := by
    obtain ⟨c1, r1, e1, e2⟩ := h.edge nd hnd0 hnd
    rw [he] at e1
    simp only [List.cons_append, List.cons.injEq] at e1
    rw [hp, e1.1]; exact e2
  have hqp : q = path p ++ (g :: l1) := by
    have h1 := h.path nd hnd0 hnd
    rw [he, ← hp] at h1
    rw [h1, ← List.append_assoc] at hstr
    exact List.append_cancel_right hstr
  have n0 : ¬ 0 = t.N := by omega
  have n1 : ¬ 0 = nd := by omega
  have n2 : ¬ nd = t.N := by omega
  have n3 : ¬ p = t.N := by omega
  refine ⟨⟨by simp [split], ?_, ?_, ?_, ?_, ?_, ?_⟩, ⟨by simp [split], by simp [split]; omega, fun _ => by simp; omega, ?_, fun h0 => by simp only at h0; omega⟩⟩
  · simp [split, n0, n1, h.root]
  · simp [n0, h.path0]
  · intro k h0 hk1
    simp only [split] at hk1 ⊢
    by_cases e : k = t.N
    · simp [e]; omega
    · by_cases e' : k = nd
      · simp [e', n2]
      · have := h.up k h0 (by omega)
        simp [e, e']; omega
  · intro k h0 hk1
    simp only [split] at hk1 ⊢
    by_cases e : k = t.N
    · exact ⟨g, l1, by simp [e], by simp [e, n3]⟩
    · by_cases e' : k = nd
      · exact ⟨f, l2, by simp [e', n2], by simp [e', n2]⟩
      · obtain ⟨c1, r1, e1, e2⟩ := h.edge k h0 (by omega)
        have hup := h.up k h0 (by omega)
        refine ⟨c1, r1, by simp [e, e', e1], ?_⟩
        simp only [e, e', if_false]
        rw [if_neg (by omega), if_neg, e2]
        rintro ⟨e3, e4⟩
        rw [e3, e4, hkn] at e2
        cases e2
        exact e' rfl
  · intro k h0 hk1
    simp only [split] at hk1 ⊢
    by_cases e : k = t.N
    · simp [e, n3, hqp]
    · by_cases e' : k = nd
      · simp [e', n2, hstr]
      · have := h.up k h0 (by omega)
        simp [e, e', show ¬ par k = t.N from by omega, h.path k h0 (by omega)]
  · intro n b k hkk
    simp only [split] at hkk ⊢
    by_cases e : n = t.N ∧ b = f
    · rw [if_pos e] at hkk
      cases hkk
      exact ⟨by omega, by omega, by omega, by simp [e.1, n2], l2, by simp [e.2, n2]⟩
    · rw [if_neg e] at hkk
      by_cases e2 : n = p ∧ b = g
      · rw [if_pos e2] at hkk
        cases hkk
        exact ⟨by omega, by omega, by omega, by simp [e2.1], l1, by simp [e2.2]⟩
      · rw [if_neg e2] at hkk
        obtain ⟨h1, h2, h3, h4, r1, h5⟩ := h.kid n b k hkk
        have hne : ¬ k = nd := by
          intro ek
          subst ek
          rw [he] at h5
          simp only [List.cons_append, List.cons.injEq] at h5
          exact e2 ⟨by rw [hp, h4], h5.1.symm⟩
        refine ⟨by omega, h2, by omega, by simp [show ¬ k = t.N from by omega, hne, h4], r1, by simp [show ¬ k = t.N from by omega, hne, h5]⟩
  · simp [split, ← hl]

/-- A trie that stands. -/
def Fine (t : Tr) : Prop := ∃ par path, Good t par path

/-- One trie is another and more. -/
def More (t t' : Tr) : Prop := Fine t' ∧ ∀ s, Has t s → Has t' s

theorem more_leaf {p nd a : Nat} {q r : List UInt8} {c : UInt8} (h : Good t par path) (ha : At t par path (p, nd, a) q) (hle : ¬ a < (t.e nd).length) (hk : t.k nd c = none) : More t (leaf t nd c r) ∧ Has (leaf t nd c r) (q ++ c :: r) := by
  have hg := good_leaf (r := r) h ha hle hk
  refine ⟨⟨⟨_, _, hg⟩, fun s hs => has_keep h hg (by simp [leaf]) (fun k hk => by simp [show ¬ k = t.N from by omega]) hs⟩, ?_⟩
  have := has_path hg (k := t.N) (by simp [leaf])
  simpa using this

/-- add, where s runs out of the trie at a node's end. -/
theorem add_end {t : Tr} {p nd a : Nat} {q r : List UInt8} {c : UInt8} (h : Fine t) (hr : run t root q = some (p, nd, a)) (hle : ¬ a < (t.e nd).length) (hs : stp t (p, nd, a) c = none) : More t (leaf t nd c r) ∧ Has (leaf t nd c r) (q ++ c :: r) := by
  obtain ⟨par, path, hg⟩ := h
  have ha := (At.root hg).run hg q hr
  simp only [List.nil_append] at ha
  refine more_leaf hg ha hle ?_
  simpa [stp, hle] using hs

/-- add, where s parts from an edge inside it. -/
theorem add_in {t : Tr} {p nd a : Nat} {q r l1 l2 : List UInt8} {c g f : UInt8} (h : Fine t) (hr : run t root q = some (p, nd, a)) (hl : l1.length + 1 = a) (he : t.e nd = g :: l1 ++ f :: l2) (hs : stp t (p, nd, a) c = none) :
    More t (leaf (split t p nd g (g :: l1) f l2) t.N c r) ∧ Has (leaf (split t p nd g (g :: l1) f l2) t.N c r) (q ++ c :: r) := by
  obtain ⟨par, path, hg⟩ := h
  have ha := (At.root hg).run hg q hr
  simp only [List.nil_append] at ha
  obtain ⟨hg', ha'⟩ := good_split hg ha hl he
  have hfc : ¬ c = f := by
    intro e
    subst e
    have h1 : a < (t.e nd).length := by rw [he, ← hl]; simp
    have h2 : (t.e nd)[a]? = some c := by rw [he, ← hl]; simp
    rw [List.getElem?_eq_getElem h1, Option.some.injEq] at h2
    simp [stp, h1, h2] at hs
  have hnk : ∀ b, t.k t.N b = none := by
    intro b
    cases hb : t.k t.N b with
    | none => rfl
    | some k => have := (hg.kid _ _ _ hb).1; omega
  have hpN : ¬ t.N = p := by
    have hnd0 : 0 < nd := by
      rcases Nat.eq_zero_or_pos nd with e | e
      · rw [e, hg.root] at he; cases he
      · exact e
    have h1 := (ha.par hnd0).1
    have h2 := hg.up nd hnd0 ha.lt
    simp only at h1
    omega
  obtain ⟨hm, hh⟩ := more_leaf (r := r) (c := c) hg' ha' (by simp [split, ← hl]) (by simp [split, hfc, hpN, hnk])
  refine ⟨⟨hm.1, fun s hs => hm.2 s (has_keep hg hg' (by simp [split]) (fun k hk => by simp [show ¬ k = t.N from by omega]) hs)⟩, hh⟩

/-- The parent of where a walk ended, and that it is inside the edge. -/
theorem at_facts {t : Tr} {p nd a : Nat} {q : List UInt8} (h : Fine t) (hr : run t root q = some (p, nd, a)) : nd < t.N ∧ p < t.N ∧ a ≤ (t.e nd).length ∧ (a < (t.e nd).length → 0 < a) := by
  obtain ⟨par, path, hg⟩ := h
  have ha := (At.root hg).run hg q hr
  refine ⟨ha.lt, ?_, ha.le, fun h1 => ?_⟩
  · rcases Nat.eq_zero_or_pos nd with e | e
    · have := ha.top e
      have := hg.pos
      simp only at *
      omega
    · have h1 := (ha.par e).1
      have h2 := hg.up nd e ha.lt
      simp only at h1
      omega
  · rcases Nat.eq_zero_or_pos nd with e | e
    · simp only [e, hg.root] at h1; simp at h1
    · exact (ha.par e).2

theorem fine_new : Fine { N := 1, e := fun _ => [], k := fun _ _ => none } :=
  ⟨fun _ => 0, fun _ => [], by simp, rfl, rfl, fun k h0 h1 => by simp at h1; omega, fun k h0 h1 => by simp at h1; omega, fun k h0 h1 => by simp, fun n c k h => by simp at h⟩

end Go.Proofs.Ybulkalji
