import Derived.Test.YbulkaljiTI
namespace Go.Proofs.Ybulkalji
open Go.RowKit
set_option linter.unusedVariables false
set_option linter.unusedSimpArgs false

set_option maxRecDepth 100000 in
set_option maxHeartbeats 1000000 in
theorem newTrie_walk (w : World) :
    Calls Yba.prog 10 #[] w fun e w' => e = .returned (.agg #[.slice (some ⟨w.heap.size + 1, 0, none⟩) 1 1, .map (some (w.heap.size + 2))]) ∧ Below w.heap.size w w' ∧ w'.heap[w.heap.size + 1]? = some (.cells #[.string ⟨#[]⟩] 9 (0, 0)) ∧ w'.heap[w.heap.size + 2]? = some (.map #[] 0) ∧ w'.heap.size = w.heap.size + 3 := by
  have hmm := @run_makeMap Yba.prog
  go_enter Yba.func10, Yba.ntmps10
  go_wp2
  have a1 := fun o => MapKept.heap_alloc w o
  have a2 := fun o o' => MapKept.heap_alloc (w.alloc o) o'
  have a3 := fun o o' o'' => MapKept.heap_alloc ((w.alloc o).alloc o') o''
  simp only [World.size_alloc] at a1 a2 a3
  refine bodyPost_ret (v := .agg #[.slice (some ⟨w.heap.size + 1, 0, none⟩) 1 1, .map (some (w.heap.size + 2))]) (by simp [results, Yba.results10, go_sem]) rfl ⟨rfl, (((Below.refl _ _).alloc (Nat.le_refl _) _).alloc (by simp) _).alloc (by simp; omega) _, ?_, ?_, by simp⟩
  · exact ((a3 _ _ _).2 _ (by omega)).trans (a2 _ _).1
  · exact (a3 _ _ _).1

def seenN (hs : Nat → Nat) : Nat → Nat → Bool
  | 0, _ => false
  | i + 1, j => seenN hs i j || j == hs i
def wantN (hs : Nat → Nat) : Nat → Nat
  | 0 => 0
  | i + 1 => max (wantN hs i) (hs i + 1)

def evCells (h : Nat) : Array Value := #[.int .i64 0, .int .u64 0, .int .i64 0, .int .i64 0, .int .i32 h, .int .i32 0, .int .i32 0, .int .u8 0, .bool false]

/-- The run's events. -/
structure Evs (w : World) (B R ev nE : Nat) (hs : Nat → Nat) : Prop where
  run : ∃ ecap, w.cell? ⟨R, 0, none⟩ = some (.slice (some ⟨ev, 0, none⟩) nE ecap) ∧ nE ≤ ecap
  cell : ∀ j, j < nE → ∀ c, c < 9 → w.cell? ⟨ev, j * 9 + c, none⟩ = (evCells (hs j))[c]?
  low : R < B ∧ ev < B
  few : nE ≤ 1024

theorem Evs.keep {w w' : World} {B R ev nE : Nat} {hs : Nat → Nat} (E : Evs w B R ev nE hs) (hb : Below B w w') : Evs w' B R ev nE hs := by
  obtain ⟨ecap, h1, h2⟩ := E.run
  exact ⟨⟨ecap, (hb.cell E.low.1).trans h1, h2⟩, fun j hj c hc => (hb.cell E.low.2).trans (E.cell j hj c hc), E.low, E.few⟩

theorem Spl.alloc {w : World} {B T R M : Nat} {nm : Nat → ByteArray} {seen : Nat → Bool} {n i : Nat} {hv : Value} {g cap : Nat} {str : Nat → ByteArray} {es : Array MapEntry} {clock : Nat} {t : Tr} (S : Spl w B T R M nm seen n i hv g cap str es clock t) (o : Obj) : Spl (w.alloc o) B T R M nm seen n i hv g cap str es clock t :=
  ⟨S.own.grown (gb_alloc w o) (fun k hk => by cases hk), S.host.kept (gb_alloc w o) (by by_cases e : hv.ownBlock = none; exact .inl e; exact .inr e), S.fine, S.has, S.none_, S.few, S.out, by have := S.base; simp; omega⟩

theorem spl_start {w w1 : World} {R : Nat} {nm : Nat → ByteArray} (hb1 : Below w.heap.size w w1) (hr1 : w1.heap[w.heap.size + 1]? = some (.cells #[.string ⟨#[]⟩] 9 (0, 0))) (hm1 : w1.heap[w.heap.size + 2]? = some (.map #[] 0)) :
    Spl (w1.alloc (.cells #[.pointer (some ⟨R, 0, none⟩), .slice none 0 0, .slice (some ⟨w.heap.size + 1, 0, none⟩) 1 1, .map (some (w.heap.size + 2)), .slice none 0 0, .slice none 0 0] 76)) w.heap.size w1.heap.size R (w.heap.size + 2) nm (fun _ => false) 0 0
      (.slice none 0 0) (w.heap.size + 1) 1 (fun _ => ⟨#[]⟩) #[] 0 { N := 1, e := fun _ => [], k := fun _ _ => none } := by
  have ga := MapKept.heap_alloc w1 (.cells #[.pointer (some ⟨R, 0, none⟩), .slice none 0 0, .slice (some ⟨w.heap.size + 1, 0, none⟩) 1 1, .map (some (w.heap.size + 2)), .slice none 0 0, .slice none 0 0] 76)
  refine ⟨⟨ga.1, ?_, (ga.2 _ (Array.getElem?_eq_some_iff.1 hm1).1).trans hm1, ⟨fun k hk => rfl, fun k hk => Nat.zero_le _, fun e he => by simp at he, fun n c hn => rfl, by simp⟩⟩, World.ownsRow_nil _ _ _ _, fine_new, fun j hj => by simp at hj, fun _ => ⟨rfl, rfl⟩, by simp, fun _ _ => rfl, ?_⟩
  · refine ⟨by simp [strs], .inr ⟨w.heap.size + 1, 1, #[.string ⟨#[]⟩], rfl, by omega, (ga.2 _ (Array.getElem?_eq_some_iff.1 hr1).1).trans hr1, Nat.le_refl _, by unfold maxLen; omega, rfl, rfl⟩⟩
  · have := hb1.size
    simp
    omega

set_option maxRecDepth 100000 in
set_option maxHeartbeats 1000000 in
theorem newSplitter_walk (w : World) (R ev nE ns nN : Nat) (hs : Nat → Nat) (nm : Nat → ByteArray) (E : Evs w w.heap.size R ev nE hs) (N : Nms w w.heap.size R ns nN nm) (hhs : ∀ j, j < nE → hs j < nN) :
    Calls Yba.prog 7 #[.pointer (some ⟨R, 0, none⟩)] w fun e w' => ∃ T M, e = .returned (.pointer (some ⟨T, 0, none⟩)) ∧ w.heap.size ≤ T ∧ w.heap.size ≤ M ∧ Below w.heap.size w w' ∧
      ∃ hv g cap str es clock t, Spl w' w.heap.size T R M nm (seenN hs nE) (wantN hs nE) nE hv g cap str es clock t := by
  obtain ⟨ecap, er, ecl⟩ := E.run
  go_enter Yba.func7, Yba.ntmps7
  go_wp2_with fail
  refine (newTrie_walk _).mono ?_
  rintro e w1 ⟨rfl, hb1, hr1, hm1, hz1⟩
  have er1 := (hb1.cell E.low.1).trans er
  have Hz : Hid (w1.heap.size = w.heap.size + 3) := hz1
  clear hz1
  have er2 := cell_al er1 (.cells #[.pointer (some ⟨R, 0, none⟩), .slice none 0 0, .slice (some ⟨w.heap.size + 1, 0, none⟩) 1 1, .map (some (w.heap.size + 2)), .slice none 0 0, .slice none 0 0] 76)
  go_wp2_with fail
  have hT : Hid (w.heap.size ≤ w1.heap.size) := hb1.size
  have HS : Hid (seenN hs 0 = fun _ => false) := by show seenN hs 0 = _; funext j; rfl
  clear er er1
  go_loopw [15] (fun v wr => ∃ i : Nat, i ≤ nE ∧ v = .int .i64 i ∧ Below w.heap.size w wr ∧ ∃ hv g cap str es clock t, Spl wr w.heap.size w1.heap.size R (w.heap.size + 2) nm (seenN hs i) (wantN hs i) i hv g cap str es clock t) (fun v _ => nE - (intOf v).toNat)
  case atStart => exact ⟨0, Nat.zero_le _, rfl, hb1.alloc hb1.size _, _, _, _, _, _, _, _, by rw [HS.out]; exact spl_start hb1 hr1 hm1⟩
  case round =>
    obtain ⟨i, hi, rfl, hb, hv, g, cap, str, es, clock, t, S⟩ := hrel
    clear er2 hr1 hm1 hb1
    have hE := E.keep hb
    have hN := N.keep hb
    have hfew := E.few
    by_cases hlt : i < nE
    · have c0 := hE.cell i hlt 0 (by omega)
      have c1 := hE.cell i hlt 1 (by omega)
      have c2 := hE.cell i hlt 2 (by omega)
      have c3 := hE.cell i hlt 3 (by omega)
      have c4 := hE.cell i hlt 4 (by omega)
      have c5 := hE.cell i hlt 5 (by omega)
      have c6 := hE.cell i hlt 6 (by omega)
      have c7 := hE.cell i hlt 7 (by omega)
      have c8 := hE.cell i hlt 8 (by omega)
      simp [evCells] at c0 c1 c2 c3 c4 c5 c6 c7 c8
      have hlt' : (i : Int) < (nE : Int) := by omega
      go_wp2_with fail
      have hba := hb.alloc hb.size (.cells #[.int .i64 0, .int .u64 0, .int .i64 0, .int .i64 0, .int .i32 (hs i), .int .i32 0, .int .i32 0, .int .u8 0, .bool false] 56)
      refine (addHost_walk _ w.heap.size w1.heap.size R (w.heap.size + 2) nm (seenN hs i) (wantN hs i) i hv g cap str es clock t ns nN (hs i) (S.alloc _) (N.keep hba) (hhs i hlt) (by omega) ⟨hT.out, by omega⟩).mono ?_
      rintro e w2 ⟨⟨v, rfl⟩, hb2, hv', g', cap', str', es', clock', t', S'⟩
      clear c0 c1 c2 c3 c4 c5 c6 c7 c8 hE hN
      have hb3 : Below w.heap.size w w2 := hba.trans hb2
      clear hba hb2
      go_wp2
      go_roundw
      case rel => exact ⟨i + 1, by omega, by go_num, hb3, hv', g', cap', str', es', clock', t', S'⟩
      case measure => simp [intOf]; omega
    · have heq : Hid (i = nE) := by show i = nE; omega
      have hlt' : ¬ (i : Int) < (nE : Int) := by omega
      go_wp2
      go_ret
      refine ⟨w1.heap.size, rfl, hT.out, w.heap.size + 2, by omega, hb, hv, g, cap, str, es, clock, t, ?_⟩
      rw [← heq.out]
      exact S
end Go.Proofs.Ybulkalji
