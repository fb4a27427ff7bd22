import Derived.Test.YbulkaljiTB
import Derived.Deep.RegionHeld3
namespace Go.Proofs.Ybulkalji
open Go.RowKit
set_option linter.unusedVariables false
set_option linter.unusedSimpArgs false

def bl (s : ByteArray) : List UInt8 := s.data.toList
theorem bl_len (s : ByteArray) : (bl s).length = s.size := by cases s; rfl

/-- The trie as it lies in memory: the struct at ⟨T, o⟩, the edges' row in block g, the kids' map in block M. -/
structure Rep (w : World) (T o g cap M : Nat) (str : Nat → ByteArray) (es : Array MapEntry) (clock : Nat) (t : Tr) : Prop where
  c0 : w.cell? ⟨T, o, none⟩ = some (.slice (some ⟨g, 0, none⟩) t.N cap)
  c1 : w.cell? ⟨T, o + 1, none⟩ = some (.map (some M))
  edges : ∀ k, k < t.N → w.cell? ⟨g, k, none⟩ = some (.string (str k))
  bytes : ∀ k, k < t.N → bl (str k) = t.e k
  short : ∀ k, k < t.N → (str k).size ≤ 281474976710656
  map : w.heap[M]? = some (.map es clock)
  keys : IntKeys .u64 es.toList
  kids : ∀ n c, n < 16777216 → look es ((n * 256 + c.toNat : Nat) : Int) = (t.k n c).map fun k => .int .u32 k
  small : t.N < 16777216

theorem keepb {W w' : World} {b : Nat} {o : Obj} (hb : Below W.heap.size W w') (h : W.heap[b]? = some o) : w'.heap[b]? = some o := (hb.block b (Array.getElem?_eq_some_iff.1 h).1).trans h
theorem keepc {W w' : World} {a : Addr} {v : Value} (hb : Below W.heap.size W w') (h : W.cell? a = some v) : w'.cell? a = some v := (hb.cell (World.block_lt_of_cell? W _ h)).trans h
theorem Rep.keep {w w' : World} {T o g cap M : Nat} {str : Nat → ByteArray} {es : Array MapEntry} {clock : Nat} {t : Tr} (h : Rep w T o g cap M str es clock t) (hb : Below w.heap.size w w') : Rep w' T o g cap M str es clock t :=
  ⟨keepc hb h.c0, keepc hb h.c1, fun k hk => keepc hb (h.edges k hk), h.bytes, h.short, keepb hb h.map, h.keys, h.kids, h.small⟩

theorem blk_cell {w : World} {b : Nat} {cs : Array Value} {t : TypeId} {fr : Nat × Nat} (h : w.heap[b]? = some (.cells cs t fr)) (j : Nat) : w.cell? ⟨b, j, none⟩ = cs[j]? := by simp [World.cell?, h]
theorem blk_frozen {w : World} {b : Nat} {cs : Array Value} {t : TypeId} (h : w.heap[b]? = some (.cells cs t (0, 0))) (j : Nat) : w.frozen? ⟨b, j, none⟩ = false := by simp [World.frozen?, h]

/-- The head of a round of walk: its a, and the box of its result. -/
structure WInv (w : World) (p nd a : Nat) (wr : World) : Prop where
  box : wr.heap[w.heap.size]? = some (.cells #[.int .u32 p, .int .u32 nd, .int .i64 a] 80 (0, 0))
  res : wr.heap[w.heap.size + 1]? = some (.cells #[.int .u32 0, .int .u32 0, .int .i64 0] 80 (0, 0))
  below : Below w.heap.size w wr
  size : w.heap.size + 2 ≤ wr.heap.size

theorem w_start (w : World) : WInv w 0 0 0 ((w.alloc (.cells #[.int .u32 0, .int .u32 0, .int .i64 0] 80)).alloc (.cells #[.int .u32 0, .int .u32 0, .int .i64 0] 80)) := by
  have a1 := MapKept.heap_alloc w (.cells #[.int .u32 0, .int .u32 0, .int .i64 0] 80)
  have a2 := MapKept.heap_alloc (w.alloc (.cells #[.int .u32 0, .int .u32 0, .int .i64 0] 80)) (.cells #[.int .u32 0, .int .u32 0, .int .i64 0] 80)
  simp only [World.size_alloc] at a1 a2
  exact ⟨(a2.2 _ (by omega)).trans a1.1, a2.1, ((Below.refl _ _).alloc (Nat.le_refl _) _).alloc (by simp) _, by simp⟩
theorem WInv.drewN {w : World} {p nd a : Nat} {wr : World} (h : WInv w p nd a wr) (n : Nat) : WInv w p nd a (wr.drewN n) := ⟨h.box, h.res, below_drewN h.below n, h.size⟩
theorem WInv.step {w : World} {p nd a : Nat} {wr : World} (h : WInv w p nd a wr) : WInv w p nd (a + 1) (wr.setCell ⟨w.heap.size, 2, none⟩ (.int .i64 ((a : Int) + 1))) := by
  have o := fun j (hj : j ≠ w.heap.size) => heap_setCell_other wr ⟨w.heap.size, 2, none⟩ j (.int .i64 ((a : Int) + 1)) hj
  refine ⟨?_, (o _ (by omega)).trans h.res, h.below.setCell (by simp) _, by simpa using h.size⟩
  rw [heap_setCell_same wr _ 2 _ 80 _ h.box]
  rfl

/-- The cells that a round of walk reads and writes. -/
structure WCells (w : World) (T o M nd p a : Nat) (wr : World) : Prop where
  b0 : wr.cell? ⟨w.heap.size, 0, none⟩ = some (.int .u32 p)
  b1 : wr.cell? ⟨w.heap.size, 1, none⟩ = some (.int .u32 nd)
  b2 : wr.cell? ⟨w.heap.size, 2, none⟩ = some (.int .i64 a)
  r0 : wr.cell? ⟨w.heap.size + 1, 0, none⟩ = some (.int .u32 0)
  r1 : wr.cell? ⟨w.heap.size + 1, 1, none⟩ = some (.int .u32 0)
  r2 : wr.cell? ⟨w.heap.size + 1, 2, none⟩ = some (.int .i64 0)
  f0 : wr.frozen? ⟨w.heap.size + 1, 0, none⟩ = false
  f1 : wr.frozen? ⟨w.heap.size + 1, 1, none⟩ = false
  f2 : wr.frozen? ⟨w.heap.size + 1, 2, none⟩ = false
  g0 : wr.frozen? ⟨w.heap.size, 0, none⟩ = false
  g1 : wr.frozen? ⟨w.heap.size, 1, none⟩ = false
  g2 : wr.frozen? ⟨w.heap.size, 2, none⟩ = false
  c1 : wr.cell? ⟨T, o + 1, none⟩ = some (.map (some M))
theorem WInv.cells {w : World} {p nd a : Nat} {wr : World} (hi : WInv w p nd a wr) {T o g cap M : Nat} {str : Nat → ByteArray} {es : Array MapEntry} {clock : Nat} {t : Tr} (h : Rep w T o g cap M str es clock t) : WCells w T o M nd p a wr :=
  ⟨(blk_cell hi.box 0).trans rfl, (blk_cell hi.box 1).trans rfl, (blk_cell hi.box 2).trans rfl, (blk_cell hi.res 0).trans rfl, (blk_cell hi.res 1).trans rfl, (blk_cell hi.res 2).trans rfl,
   blk_frozen hi.res 0, blk_frozen hi.res 1, blk_frozen hi.res 2, blk_frozen hi.box 0, blk_frozen hi.box 1, blk_frozen hi.box 2, (h.keep hi.below).c1⟩

theorem WInv.kid {w : World} {p nd a k : Nat} {wr : World} (h : WInv w p nd a wr) : WInv w nd k 1 (((wr.setCell ⟨w.heap.size, 0, none⟩ (.int .u32 nd)).setCell ⟨w.heap.size, 1, none⟩ (.int .u32 k)).setCell ⟨w.heap.size, 2, none⟩ (.int .i64 1)) := by
  have o := fun (wq : World) (i j : Nat) (v : Value) (hj : j ≠ w.heap.size) => heap_setCell_other wq ⟨w.heap.size, i, none⟩ j v hj
  refine ⟨?_, (o _ _ _ _ (by omega)).trans ((o _ _ _ _ (by omega)).trans ((o _ _ _ _ (by omega)).trans h.res)), ((h.below.setCell (by simp) _).setCell (by simp) _).setCell (by simp) _, by simpa using h.size⟩
  have e1 := heap_setCell_same wr _ 0 _ 80 (.int .u32 nd) h.box
  have e2 := heap_setCell_same _ _ 1 _ 80 (.int .u32 k) e1
  have e3 := heap_setCell_same _ _ 2 _ 80 (.int .i64 1) e2
  rw [e3]
  rfl

theorem run_step {t : Tr} {s : ByteArray} {n : Nat} {x y : Pt} {c : UInt8} (h : run t root ((bl s).take n) = some x) (hc : (bl s)[n]? = some c) (hs : stp t x c = some y) : run t root ((bl s).take (n + 1)) = some y := by
  rw [List.take_add_one, hc, run_append, h]
  simp [run, hs]

theorem s_byte {s : ByteArray} {n : Nat} {c : UInt8} (hn : n < s.size) (hc : (bl s)[n]? = some c) : ((s[n]'hn).toNat : Int) = (c.toNat : Int) := by
  have : s[n]'hn = c := by
    rw [get_eq s n hn]
    unfold bl at hc
    rw [List.getD_eq_getElem?_getD, hc]
    rfl
  rw [this]

theorem kids_some {w : World} {b clock : Nat} {es : Array MapEntry} (hb : w.heap[b]? = some (.map es clock)) (hk : IntKeys .u64 es.toList) {x : Int} {v : Value} (h : look es x = some v) :
    (Instr.lookup 71 (.map (some b)) (.int .u64 x) true).run Yba.prog w = .ok (.tuple #[v, .bool true]) w := by rw [kids_get hb hk x, h]
theorem kids_none {w : World} {b clock : Nat} {es : Array MapEntry} (hb : w.heap[b]? = some (.map es clock)) (hk : IntKeys .u64 es.toList) {x : Int} (h : look es x = none) :
    (Instr.lookup 71 (.map (some b)) (.int .u64 x) true).run Yba.prog w = .ok (.tuple #[.int .u32 0, .bool false]) w := by rw [kids_get hb hk x, h]

theorem WInv.held {w : World} {p nd a : Nat} {wr : World} (hi : WInv w p nd a wr) {T o g cap M : Nat} {str : Nat → ByteArray} {es : Array MapEntry} {clock : Nat} {t : Tr} (h : Rep w T o g cap M str es clock t) :
    wr.cell? ⟨T, o + 1, none⟩ = some (.map (some M)) ∧ wr.cell? ⟨w.heap.size, 1, none⟩ = some (.int .u32 nd) ∧ WInv w p nd a wr := ⟨(hi.cells h).c1, (hi.cells h).b1, hi⟩
theorem WInv.drew {w : World} {p nd a : Nat} {wr : World} (h : WInv w p nd a wr) : WInv w p nd a wr.drew := ⟨h.box, h.res, h.below.drew, h.size⟩
theorem w_same {w w' W : World} {T o M p nd a : Nat} (h : w' = W) (hS : W.cell? ⟨T, o + 1, none⟩ = some (.map (some M)) ∧ W.cell? ⟨w.heap.size, 1, none⟩ = some (.int .u32 nd) ∧ WInv w p nd a W) :
    w'.cell? ⟨T, o + 1, none⟩ = some (.map (some M)) ∧ w'.cell? ⟨w.heap.size, 1, none⟩ = some (.int .u32 nd) ∧ WInv w p nd a w' := by rw [h]; exact hS

set_option maxRecDepth 100000 in
set_option maxHeartbeats 1000000 in
theorem walk_walk (T o g cap M : Nat) (str : Nat → ByteArray) (es : Array MapEntry) (clock : Nat) (t : Tr) (s : ByteArray) (w : World) (hR : Rep w T o g cap M str es clock t) (hf : Fine t) (hs : s.size ≤ 281474976710656) (hcap : t.N ≤ cap) :
    Calls Yba.prog 9 #[.pointer (some ⟨T, o, none⟩), .agg #[.int .u32 0, .int .u32 0, .int .i64 0], .string s] w fun e w' => ∃ p nd a n : Nat, e = .returned (.tuple #[.agg #[.int .u32 p, .int .u32 nd, .int .i64 a], .int .i64 n]) ∧ n ≤ s.size ∧
      run t root ((bl s).take n) = some (p, nd, a) ∧ (n < s.size → ∃ c, (bl s)[n]? = some c ∧ stp t (p, nd, a) c = none) ∧ Below w.heap.size w w' := by
  go_enter Yba.func9, Yba.ntmps9
  go_wp2_with fail
  go_loopw [8] (fun v wr => ∃ n p nd a : Nat, n ≤ s.size ∧ v = .int .i64 n ∧ run t root ((bl s).take n) = some (p, nd, a) ∧ WInv w p nd a wr) (fun v _ => s.size - (intOf v).toNat)
  case atStart => exact ⟨0, 0, 0, 0, Nat.zero_le _, rfl, rfl, w_start w⟩
  case round =>
    obtain ⟨n, p, nd, a, hn, rfl, hrun, hi⟩ := hrel
    have Hrun : Hid (run t root ((bl s).take n) = some (p, nd, a)) := hrun
    obtain ⟨hndN, hpN, haL, _⟩ := at_facts hf hrun
    clear hrun
    have hRr := hR.keep hi.below
    obtain ⟨b0, b1, b2, r0, r1, r2, f0, f1, f2, g0, g1, g2, c1⟩ := hi.cells hR
    by_cases hlt : n < s.size
    · have hlt' : (n : Int) < (s.size : Int) := by omega
      have hn0 : (0 : Int) ≤ (n : Int) := by omega
      have c0 := hRr.c0
      have ce := hRr.edges nd hndN
      have hN := hR.small
      have hE := hR.bytes nd hndN
      have hEs := hR.short nd hndN
      generalize str nd = E at ce hE hEs
      have hEl : E.size = (t.e nd).length := by rw [← hE, bl_len]
      have hI1 : (nd : Int) < (t.N : Int) := by omega
      have hI0 : (0 : Int) ≤ (nd : Int) := by omega
      obtain ⟨c, hc⟩ : ∃ c, (bl s)[n]? = some c := ⟨_, List.getElem?_eq_getElem (by rw [bl_len]; exact hlt)⟩
      have hsc := s_byte hlt hc
      have Hc : Hid ((bl s)[n]? = some c) := hc
      have hcl : c.toNat < 256 := c.toNat_lt
      clear hc
      by_cases ha : a < E.size
      · have hE' : Hid (bl E = t.e nd) := hE
        have hEl' : Hid (E.size = (t.e nd).length) := hEl
        have ha' : (a : Int) < (E.size : Int) := by omega
        have ha0 : (0 : Int) ≤ (a : Int) := by omega
        obtain ⟨d, hd⟩ : ∃ d, (bl E)[a]? = some d := ⟨_, List.getElem?_eq_getElem (by rw [bl_len]; exact ha)⟩
        have hed := s_byte ha hd
        have Hd : Hid ((t.e nd)[a]? = some d) := by show (t.e nd)[a]? = some d; rw [← hE]; exact hd
        have hal : Hid (a < (t.e nd).length) := by show a < (t.e nd).length; omega
        clear hE hEl hd haL
        by_cases hdc : d = c
        · subst hdc
          have HS : Hid (stp t (p, nd, a) d = some (p, nd, a + 1)) := by
            show stp t (p, nd, a) d = _
            unfold stp
            simp only [show a < (t.e nd).length from hal.out, Hd.out, if_true]
          go_wp2_with fail
          go_quiet (fail)
          go_wp2_with fail
          go_quiet (fail)
          go_wp2
          go_roundw
          case rel => exact ⟨n + 1, p, nd, a + 1, by omega, by go_num, run_step Hrun.out Hc.out HS.out, (hi.drewN _).step⟩
          case measure => simp [intOf]; omega
        · have HS : Hid (stp t (p, nd, a) c = none) := by
            show stp t (p, nd, a) c = _
            unfold stp
            simp only [show a < (t.e nd).length from hal.out, Hd.out, if_true, Option.some.injEq, hdc, if_false]
          have hne : ((d.toNat : Int) == (c.toNat : Int)) = false := by
            simp only [beq_eq_false_iff_ne, ne_eq]
            intro e
            exact hdc (UInt8.toNat_inj.1 (by omega))
          clear hdc
          go_wp2_with fail
          go_quiet (fail)
          go_wp2_with fail
          go_quiet (fail)
          go_wp2
          exact bodyPost_ret (v := .tuple #[.agg #[.int .u32 p, .int .u32 nd, .int .i64 a], .int .i64 n]) (by simp [results, Yba.results9, go_sem, r0, r1, r2]) rfl ⟨p, nd, a, n, rfl, hn, Hrun.out, fun _ => ⟨c, Hc.out, HS.out⟩, (((hi.drewN _).below.setCell (by simp) _).setCell (by simp) _).setCell (by simp) _⟩
      · have ha' : ¬ (a : Int) < (E.size : Int) := by omega
        have hal : Hid (¬ a < (t.e nd).length) := by show ¬ a < (t.e nd).length; omega
        clear hEl haL hE
        have hkid := hR.kids nd c (by omega)
        have hkeys := hR.keys
        have hmap := hR.map
        cases hk : t.k nd c with
        | some k =>
          rw [hk] at hkid
          have HS : Hid (stp t (p, nd, a) c = some (nd, k, 1)) := by
            show stp t (p, nd, a) c = _
            unfold stp
            simp only [show ¬ a < (t.e nd).length from hal.out, hk, if_false, Option.map_some]
          clear hk
          go_wp2_with fail
          go_quiet (fail)
          go_wp2_with fail
          go_quiet (fail)
          go_wp2_with fail
          generalize hwq : wr.drewN _ = wq
          have hi2 : WInv w p nd a wq := by rw [← hwq]; exact hi.drewN _
          clear hwq b0 b1 b2 r0 r1 r2 f0 f1 f2 g0 g1 g2 c1 c0 ce hRr hi
          have hnd24 : nd < 16777216 := by omega
          have hS0 := hi2.held hR
          have hS1 := hi2.drew.held hR
          have hl := kids_some (keepb hi2.drew.below hmap) hkeys hkid
          rw [show ((nd * 256 + c.toNat : Nat) : Int) = (nd : Int) * 256 + (c.toNat : Int) from by omega] at hl
          clear hkid
          go_region_held3 (fun w' => w'.cell? ⟨T, o + 1, none⟩ = some (.map (some M)) ∧ w'.cell? ⟨w.heap.size, 1, none⟩ = some (.int .u32 nd) ∧ WInv w p nd a w')
            (first | assumption | go_keep)
            (first
              | (go_at_call 13; refine (kidKey_walk nd c.toNat _ hnd24 hcl).mono ?_; rintro e w' ⟨rfl, hb⟩; have hS := w_same hb (by assumption)))
          all_goals
            have hi3 := hi2.drew
            clear hl hS0 hS1 hi2 hmap
            generalize wq.drew = wz at *
            obtain ⟨b0, b1, b2, r0, r1, r2, f0, f1, f2, g0, g1, g2, c1⟩ := hi3.cells hR
            go_wp2
            go_roundw
            case rel => exact ⟨n + 1, nd, k, 1, by omega, by go_num, run_step Hrun.out Hc.out HS.out, hi3.kid⟩
            case measure => simp [intOf]; omega
        | none =>
          rw [hk] at hkid
          have HS : Hid (stp t (p, nd, a) c = none) := by
            show stp t (p, nd, a) c = _
            unfold stp
            simp only [show ¬ a < (t.e nd).length from hal.out, hk, if_false, Option.map_none]
          clear hk
          go_wp2_with fail
          go_quiet (fail)
          go_wp2_with fail
          go_quiet (fail)
          go_wp2_with fail
          generalize hwq : wr.drewN _ = wq
          have hi2 : WInv w p nd a wq := by rw [← hwq]; exact hi.drewN _
          clear hwq b0 b1 b2 r0 r1 r2 f0 f1 f2 g0 g1 g2 c1 c0 ce hRr hi
          have hnd24 : nd < 16777216 := by omega
          have hS0 := hi2.held hR
          have hS1 := hi2.drew.held hR
          have hl := kids_none (keepb hi2.drew.below hmap) hkeys hkid
          rw [show ((nd * 256 + c.toNat : Nat) : Int) = (nd : Int) * 256 + (c.toNat : Int) from by omega] at hl
          clear hkid
          go_region_held3 (fun w' => w'.cell? ⟨T, o + 1, none⟩ = some (.map (some M)) ∧ w'.cell? ⟨w.heap.size, 1, none⟩ = some (.int .u32 nd) ∧ WInv w p nd a w')
            (first | assumption | go_keep)
            (first
              | (go_at_call 13; refine (kidKey_walk nd c.toNat _ hnd24 hcl).mono ?_; rintro e w' ⟨rfl, hb⟩; have hS := w_same hb (by assumption)))
          all_goals
            have hi3 := hi2.drew
            clear hl hS0 hS1 hi2 hmap
            generalize wq.drew = wz at *
            obtain ⟨b0, b1, b2, r0, r1, r2, f0, f1, f2, g0, g1, g2, c1⟩ := hi3.cells hR
            go_wp2
            exact bodyPost_ret (v := .tuple #[.agg #[.int .u32 p, .int .u32 nd, .int .i64 a], .int .i64 n]) (by simp [results, Yba.results9, go_sem, r0, r1, r2]) rfl ⟨p, nd, a, n, rfl, hn, Hrun.out, fun _ => ⟨c, Hc.out, HS.out⟩, ((hi3.below.setCell (by simp) _).setCell (by simp) _).setCell (by simp) _⟩
    · have hne : Hid (s.size = n) := by show s.size = n; omega
      have hlt' : ¬ (n : Int) < (s.size : Int) := by omega
      go_wp2
      exact bodyPost_ret (v := .tuple #[.agg #[.int .u32 p, .int .u32 nd, .int .i64 a], .int .i64 n]) (by simp [results, Yba.results9, go_sem, r0, r1, r2]) rfl ⟨p, nd, a, n, rfl, hn, Hrun.out, fun h => absurd h hlt, ((hi.below.setCell (by simp) _).setCell (by simp) _).setCell (by simp) _⟩
end Go.Proofs.Ybulkalji
