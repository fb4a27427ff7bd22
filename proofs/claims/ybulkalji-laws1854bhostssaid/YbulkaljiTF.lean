import Derived.Test.YbulkaljiTE
namespace Go.Proofs.Ybulkalji
open Go.RowKit
set_option linter.unusedVariables false
set_option linter.unusedSimpArgs false

theorem mid_start {w w1 : World} {B T g cap M : Nat} {r h : Value} {str : Nat → ByteArray} {es : Array MapEntry} {clock : Nat} {t : Tr} (o : Own w B T g cap M r h str es clock t) (hb : Below w.heap.size w w1) (p nd a : Nat) :
    Mid w B T g M r h w1.heap.size p nd a (w1.alloc (.cells #[.int .u32 p, .int .u32 nd, .int .i64 a] 80)) g cap str es clock t := by
  have hlt : ∀ k, k = T ∨ k = g ∨ k = M → k < w.heap.size := by
    obtain ⟨cur, hg, _⟩ := o.rowBlk
    rintro k (rfl | rfl | rfl)
    · exact (Array.getElem?_eq_some_iff.1 o.blk).1
    · exact (Array.getElem?_eq_some_iff.1 hg).1
    · exact (Array.getElem?_eq_some_iff.1 o.map).1
  have hb' : Below w.heap.size w (w1.alloc (.cells #[.int .u32 p, .int .u32 nd, .int .i64 a] 80)) := hb.alloc hb.size _
  exact ⟨o.keep fun k hk => hb'.block k (hlt k hk), (MapKept.heap_alloc w1 _).1, hb.size, Chg.of_below hb', .inl rfl⟩

theorem bl_from {s : ByteArray} {n : Nat} {c : UInt8} (hc : (bl s)[n]? = some c) : bl (s.extract n s.size) = c :: (bl s).drop (n + 1) := by
  have hl : n < (bl s).length := (List.getElem?_eq_some_iff.1 hc).1
  have h1 : bl (s.extract n s.size) = (bl s).drop n := by
    unfold bl
    rw [ByteArray.data_extract, Array.toList_extract]
    simp [List.extract]
    rw [List.take_of_length_le]
    simp
  rw [h1, List.drop_eq_getElem_cons hl]
  rw [List.getElem?_eq_getElem hl, Option.some.injEq] at hc
  rw [hc]
theorem bl_to (s : ByteArray) (n : Nat) : bl (s.extract 0 n) = (bl s).take n := by
  unfold bl
  rw [ByteArray.data_extract, Array.toList_extract]
  simp [List.extract]
theorem bl_join {s : ByteArray} {n : Nat} {c : UInt8} (hc : (bl s)[n]? = some c) : (bl s).take n ++ c :: (bl s).drop (n + 1) = bl s := by
  have hl : n < (bl s).length := (List.getElem?_eq_some_iff.1 hc).1
  rw [List.getElem?_eq_getElem hl, Option.some.injEq] at hc
  rw [← hc, ← List.drop_eq_getElem_cons hl, List.take_append_drop]

theorem fin_end {w W : World} {B T g0 M : Nat} {r h : Value} {A p nd a p' nd' a' : Nat} {g cap : Nat} {str : Nat → ByteArray} {es : Array MapEntry} {clock : Nat} {t : Tr} {s : ByteArray} {n : Nat} {c : UInt8} (hf : Fine t)
    (hr : run t root ((bl s).take n) = some (p, nd, a)) (hc : (bl s)[n]? = some c) (hle : ¬ a < (t.e nd).length) (hst : stp t (p, nd, a) c = none)
    (m : Mid w B T g0 M r h A p' nd' a' W g cap str es clock (addE (setK t nd c t.N) (bl (s.extract n s.size)))) : Added w B T g0 M r h t s W := by
  obtain ⟨hm, hh⟩ := add_end (r := (bl s).drop (n + 1)) hf hr hle hst
  rw [bl_join hc] at hh
  rw [bl_from hc, ← leaf_eq] at m
  exact ⟨g, cap, str, es, clock, _, m.own, hm, hh, by simp [leaf], m.chg, m.at_⟩

theorem fin_in {w W : World} {B T g0 M : Nat} {r h : Value} {A p nd a p' nd' a' : Nat} {g cap : Nat} {str : Nat → ByteArray} {es : Array MapEntry} {clock : Nat} {t : Tr} {s E : ByteArray} {n : Nat} {c e0 f : UInt8} (hf : Fine t)
    (hr : run t root ((bl s).take n) = some (p, nd, a)) (hc : (bl s)[n]? = some c) (hE : bl E = t.e nd) (ha : a < E.size) (ha0 : 0 < a) (he0 : (bl E)[0]? = some e0) (hef : (bl E)[a]? = some f) (hnd : nd < t.N) (hst : stp t (p, nd, a) c = none)
    (m : Mid w B T g0 M r h A p' nd' a' W g cap str es clock (addE (setK (setE (setK (setK (addE t (bl (E.extract 0 a))) p e0 t.N) t.N f nd) nd (bl (E.extract a E.size))) t.N c (t.N + 1)) (bl (s.extract n s.size)))) : Added w B T g0 M r h t s W := by
  obtain ⟨l1, hl1⟩ : ∃ l1, (bl E).take a = e0 :: l1 := by
    cases hb : bl E with
    | nil => rw [hb] at he0; simp at he0
    | cons x l =>
      rw [hb] at he0
      simp at he0
      subst he0
      obtain ⟨a', rfl⟩ : ∃ a', a = a' + 1 := ⟨a - 1, by omega⟩
      exact ⟨l.take a', by simp⟩
  have hlen : l1.length + 1 = a := by
    have := congrArg List.length hl1
    simp only [List.length_take, bl_len, List.length_cons] at this
    omega
  have he : t.e nd = e0 :: l1 ++ f :: (bl E).drop (a + 1) := by rw [← hE, ← hl1, bl_join hef]
  obtain ⟨hm, hh⟩ := add_in (r := (bl s).drop (n + 1)) hf hr hlen he hst
  rw [bl_join hc] at hh
  rw [bl_from hc, bl_from hef, bl_to, hl1] at m
  have e2 := split_eq (t := t) (p := p) (nd := nd) (g := e0) (f := f) (l1 := e0 :: l1) (l2 := (bl E).drop (a + 1)) hnd
  rw [← e2] at m
  exact ⟨g, cap, str, es, clock, _, m.own, hm, hh, by simp [addE, setK, split], m.chg, m.at_⟩

theorem cell_al {w1 : World} {a : Addr} {v : Value} (h : w1.cell? a = some v) (o : Obj) : (w1.alloc o).cell? a = some v := by
  rw [World.cell?_alloc_some _ _ _ (by rw [h]; rfl)]
  exact h

theorem add_same0 {w' W : World} {T A M p : Nat} (h : w' = W) (hS : W.cell? ⟨T, 3, none⟩ = some (.map (some M)) ∧ W.cell? ⟨A, 0, none⟩ = some (.int .u32 p)) :
    w'.cell? ⟨T, 3, none⟩ = some (.map (some M)) ∧ w'.cell? ⟨A, 0, none⟩ = some (.int .u32 p) := by rw [h]; exact hS
theorem add_same1 {w' W : World} {T A M nd a : Nat} (h : w' = W) (hS : W.cell? ⟨T, 3, none⟩ = some (.map (some M)) ∧ W.cell? ⟨A, 1, none⟩ = some (.int .u32 nd) ∧ W.cell? ⟨A, 2, none⟩ = some (.int .i64 a)) :
    w'.cell? ⟨T, 3, none⟩ = some (.map (some M)) ∧ w'.cell? ⟨A, 1, none⟩ = some (.int .u32 nd) ∧ w'.cell? ⟨A, 2, none⟩ = some (.int .i64 a) := by rw [h]; exact hS
theorem add_same {w' W : World} {T A M nd N g cap : Nat} (h : w' = W) (hS : W.cell? ⟨T, 3, none⟩ = some (.map (some M)) ∧ W.cell? ⟨A, 1, none⟩ = some (.int .u32 nd) ∧ W.cell? ⟨T, 2, none⟩ = some (.slice (some ⟨g, 0, none⟩) N cap)) :
    w'.cell? ⟨T, 3, none⟩ = some (.map (some M)) ∧ w'.cell? ⟨A, 1, none⟩ = some (.int .u32 nd) ∧ w'.cell? ⟨T, 2, none⟩ = some (.slice (some ⟨g, 0, none⟩) N cap) := by rw [h]; exact hS

set_option maxRecDepth 100000 in
set_option maxHeartbeats 1000000 in
theorem add_walk (w : World) (B T g cap M : Nat) (r h : Value) (str : Nat → ByteArray) (es : Array MapEntry) (clock : Nat) (t : Tr) (s : ByteArray) (o : Own w B T g cap M r h str es clock t) (hf : Fine t) (hs : s.size ≤ 281474976710656) (hN : t.N < 90000) (hB : B ≤ w.heap.size) :
    Calls Yba.prog 14 #[.pointer (some ⟨T, 2, none⟩), .string s] w fun e w' => (∃ v, e = .returned v) ∧ Added w B T g M r h t s w' := by
  go_enter Yba.func14, Yba.ntmps14
  go_wp2_with fail
  refine (walk_walk T 2 g cap M str es clock t s _ o.rep hf hs o.rowBlk.choose_spec.2.2).mono ?_
  rintro e w1 ⟨p, nd, a, n, rfl, hn, hrun, hstop, hb⟩
  have m0 := mid_start o hb p nd a
  have Hrun : Hid (run t root ((bl s).take n) = some (p, nd, a)) := hrun
  have Hstop : Hid (n < s.size → ∃ c, (bl s)[n]? = some c ∧ stp t (p, nd, a) c = none) := hstop
  obtain ⟨hndN, hpN, haL, ha0⟩ := at_facts hf hrun
  clear hrun hstop
  by_cases hlt : n < s.size
  · obtain ⟨c, hc, hst⟩ := Hstop.out hlt
    have hne : ((n : Int) == (s.size : Int)) = false := by simp; omega
    have hlt' : (n : Int) < (s.size : Int) := by omega
    have hsc := s_byte hlt hc
    have Hc : Hid ((bl s)[n]? = some c) := hc
    have Hst : Hid (stp t (p, nd, a) c = none) := hst
    have hcl : c.toNat < 256 := c.toNat_lt
    have hE := o.pv.bytes nd hndN
    have hEs := o.pv.short nd hndN
    have hEl : (str nd).size = (t.e nd).length := by rw [← hE, bl_len]
    clear hc hst Hstop hE
    have hI1 : (nd : Int) < (t.N : Int) := by omega
    have hnd24 : Hid (nd < 16777216) := by show nd < 16777216; omega
    have HN : Hid (t.N < 90000) := hN
    clear hN
    by_cases ha : a < (str nd).size
    · have ha0' := ha0 (by omega)
      have HE : Hid (bl (str nd) = t.e nd) := o.pv.bytes nd hndN
      have ha' : (a : Int) < ((str nd).size : Int) := by omega
      have hap : (0 : Int) < ((str nd).size : Int) := by omega
      obtain ⟨e0, he0⟩ : ∃ e0, (bl (str nd))[0]? = some e0 := ⟨_, List.getElem?_eq_getElem (by rw [bl_len]; omega)⟩
      obtain ⟨f, hf'⟩ : ∃ f, (bl (str nd))[a]? = some f := ⟨_, List.getElem?_eq_getElem (by rw [bl_len]; exact ha)⟩
      have He0 : Hid ((bl (str nd))[0]? = some e0) := he0
      have Hf : Hid ((bl (str nd))[a]? = some f) := hf'
      have hcl0 : e0.toNat < 256 := e0.toNat_lt
      have hclf : f.toNat < 256 := f.toNat_lt
      have HA : Hid (a < (str nd).size ∧ 0 < a) := ⟨ha, ha0'⟩
      have hp24 : Hid (p < 16777216) := by show p < 16777216; have := HN.out; omega
      have hN24 : Hid (t.N < 16777216) := by show t.N < 16777216; have := HN.out; omega
      clear hEl haL ha0 he0 hf' ha0'
      go_wp2_with fail
      generalize hW : w1.alloc (.cells #[.int .u32 p, .int .u32 nd, .int .i64 a] 80) = W at m0 ⊢
      clear hW hb
      obtain ⟨t2, t3, t3', ft2, b0, b1, b2, fb1⟩ := m0.cells
      have ed := m0.edge hndN
      generalize str nd = E at ed ha' hEs ha hap He0 Hf HA HE
      have hb0 := s_byte (show 0 < E.size by omega) He0.out
      have hbf := s_byte ha Hf.out
      have haN : a ≤ E.size := by omega
      have haZ : (a : Int) ≤ (E.size : Int) := by omega
      clear t3
      go_quiet (fail)
      have m1 := m0.drewN nq
      clear m0 t2 t3' ft2 b0 b1 b2 fb1 ed
      generalize W.drewN nq = W1 at m1 ⊢
      obtain ⟨t2, t3, t3', ft2, b0, b1, b2, fb1⟩ := m1.cells
      clear t3
      have hNi : IntKind.u32.wrap (t.N : Int) = (t.N : Int) := by have := HN.out; rw [IntKind.wrap_u32]; omega
      go_wp2_with fail
      -- edges = append(edges, edge[:at])
      obtain ⟨g5, cap5, W5, happ5, u5, fu5, m5⟩ := m1.addE (x := E.extract 0 a) hB (by have := HN.out; omega) (by rw [ByteArray.size_extract]; omega)
      have t2a : (W1.alloc (.cells #[.string (E.extract 0 a)] 9)).cell? ⟨T, 2, none⟩ = some (.slice (some ⟨g, 0, none⟩) t.N cap) := cell_al t2 _
      have b2a : (W1.alloc (.cells #[.string (E.extract 0 a)] 9)).cell? ⟨w1.heap.size, 2, none⟩ = some (.int .i64 a) := cell_al b2 _
      go_region_law (refine step_append_raw rfl (.tmp 42) (.tmp 47) 52 rfl _ _ _ _ (by first | rfl | (simp [Act.eval, Act.put]; done) | (simp [Act.eval, Act.put]; rfl)) (by first | rfl | (simp [Act.eval, Act.put]; done) | (simp [Act.eval, Act.put]; rfl)) happ5 ?_)
      all_goals
        clear t2a b2a happ5 u5 fu5 t2 t3' ft2 b0 b1 b2 fb1 m1
        generalize W5.setCell ⟨T, 2, none⟩ (.slice (some ⟨g5, 0, none⟩) (t.N + 1) cap5) = W6 at m5 ⊢
        obtain ⟨t2, t3, t3', ft2, b0, b1, b2, fb1⟩ := m5.cells
        clear t3
        go_wp2_with fail
        -- kids[kidKey(parent, edge[0])] = mid
        obtain ⟨es7, clock7, W7, hmu7, m7⟩ := m5.setK (q := t.N) hp24.out e0
        have k7 := m7.cells
        have hS0 : W6.cell? ⟨T, 3, none⟩ = some (.map (some M)) ∧ W6.cell? ⟨w1.heap.size, 0, none⟩ = some (.int .u32 p) := ⟨t3', b0⟩
        have hS2 : W7.cell? ⟨T, 3, none⟩ = some (.map (some M)) ∧ W7.cell? ⟨w1.heap.size, 0, none⟩ = some (.int .u32 p) := ⟨k7.t3', k7.b0⟩
        clear t2 t3' ft2 b0 b1 b2 fb1 k7
        go_region_held3 (fun w' => w'.cell? ⟨T, 3, none⟩ = some (.map (some M)) ∧ w'.cell? ⟨w1.heap.size, 0, none⟩ = some (.int .u32 p))
          (first | assumption | go_keep)
          (first
            | (go_at_call 13; refine (kidKey_walk p e0.toNat _ hp24.out hcl0).mono ?_; rintro e w' ⟨rfl, hb⟩; have hS := add_same0 hb (by assumption)))
        all_goals
          clear hmu7 hS0 hS2 hS
          obtain ⟨t2, t3, t3', ft2, b0, b1, b2, fb1⟩ := m7.cells
          clear t3
          go_wp2_with fail
          -- kids[kidKey(mid, edge[at])] = node
          obtain ⟨es8, clock8, W8, hmu8, m8⟩ := m7.setK (n := t.N) (q := nd) hN24.out f
          have k8 := m8.cells
          have hS0 : W7.cell? ⟨T, 3, none⟩ = some (.map (some M)) ∧ W7.cell? ⟨w1.heap.size, 1, none⟩ = some (.int .u32 nd) ∧ W7.cell? ⟨w1.heap.size, 2, none⟩ = some (.int .i64 a) := ⟨t3', b1, b2⟩
          have hS2 : W8.cell? ⟨T, 3, none⟩ = some (.map (some M)) ∧ W8.cell? ⟨w1.heap.size, 1, none⟩ = some (.int .u32 nd) ∧ W8.cell? ⟨w1.heap.size, 2, none⟩ = some (.int .i64 a) := ⟨k8.t3', k8.b1, k8.b2⟩
          clear t2 t3' ft2 b0 b1 b2 fb1 k8
          go_region_held3 (fun w' => w'.cell? ⟨T, 3, none⟩ = some (.map (some M)) ∧ w'.cell? ⟨w1.heap.size, 1, none⟩ = some (.int .u32 nd) ∧ w'.cell? ⟨w1.heap.size, 2, none⟩ = some (.int .i64 a))
            (first | assumption | go_keep)
            (first
              | (go_at_call 13; refine (kidKey_walk t.N f.toNat _ hN24.out hclf).mono ?_; rintro e w' ⟨rfl, hb⟩; have hS := add_same1 hb (by assumption)))
          all_goals
            clear hmu8 hS0 hS2 hS
            have k8 : MCells T g5 M w1.heap.size p nd a (t.N + 1) cap5 W8 := m8.cells
            obtain ⟨t2, t3, t3', ft2, b0, b1, b2, fb1⟩ := k8
            clear t3
            have hne1 := m8.at_ne.2.1
            have hne2 : T ≠ g5 := m8.own.tg
            have hI2 : (nd : Int) < (t.N : Int) + 1 := by omega
            have eg : W8.cell? ⟨g5, nd, none⟩ = some (.string ((fun i => if i = t.N then E.extract 0 a else str i) nd)) := m8.edge (k := nd) (by show nd < t.N + 1; omega)
            have fg : W8.frozen? ⟨g5, nd, none⟩ = false := m8.own.row.frozenAt nd
            have m9 : Mid w B T g M r h w1.heap.size p nd a ((W8.setCell ⟨g5, nd, none⟩ (.string (E.extract a E.size))).drew) g5 cap5 _ es8 clock8 _ := m8.drew.setE (n := nd) (x := E.extract a E.size) (by show nd < t.N + 1; omega) (by rw [ByteArray.size_extract]; omega)
            have k9 : MCells T g5 M w1.heap.size p nd a (t.N + 1) cap5 ((W8.setCell ⟨g5, nd, none⟩ (.string (E.extract a E.size))).drew) := m9.cells
            have hS0 : W8.cell? ⟨T, 2, none⟩ = some (.slice (some ⟨g5, 0, none⟩) (t.N + 1) cap5) ∧ W8.cell? ⟨w1.heap.size, 1, none⟩ = some (.int .u32 nd) ∧ W8.cell? ⟨w1.heap.size, 2, none⟩ = some (.int .i64 a) := ⟨t2, b1, b2⟩
            have hS2 : (W8.setCell ⟨g5, nd, none⟩ (.string (E.extract a E.size))).drew.cell? ⟨T, 2, none⟩ = some (.slice (some ⟨g5, 0, none⟩) (t.N + 1) cap5) ∧ (W8.setCell ⟨g5, nd, none⟩ (.string (E.extract a E.size))).drew.cell? ⟨w1.heap.size, 1, none⟩ = some (.int .u32 nd) ∧ (W8.setCell ⟨g5, nd, none⟩ (.string (E.extract a E.size))).drew.cell? ⟨w1.heap.size, 2, none⟩ = some (.int .i64 a) := ⟨k9.t2, k9.b1, k9.b2⟩
            clear t2 t3' ft2 b0 b1 b2 fb1 k9
            go_wp2_with fail
            go_region_held3 (fun w' => w'.cell? ⟨T, 2, none⟩ = some (.slice (some ⟨g5, 0, none⟩) (t.N + 1) cap5) ∧ w'.cell? ⟨w1.heap.size, 1, none⟩ = some (.int .u32 nd) ∧ w'.cell? ⟨w1.heap.size, 2, none⟩ = some (.int .i64 a))
              (first | assumption | go_keep)
              (fail)
            all_goals
              clear hS0 hS2 eg fg hne1 hne2 m8
              generalize (W8.setCell ⟨g5, nd, none⟩ (.string (E.extract a E.size))).drew = W9 at m9 ⊢
              obtain ⟨t2, t3, t3', ft2, b0, b1, b2, fb1⟩ := m9.cells
              clear t3
              go_wp2_with fail
              -- a.node = mid
              have m10 := m9.setN t.N
              clear t2 t3' ft2 b0 b1 b2 fb1 m9
              generalize W9.setCell ⟨w1.heap.size, 1, none⟩ (.int .u32 t.N) = W10 at m10 ⊢
              -- kids[kidKey(mid, s[n])] = the leaf
              obtain ⟨es11, clock11, W11, hmu, m11⟩ := m10.setK (n := t.N) (q := t.N + 1) hN24.out c
              rw [show ((t.N + 1 : Nat) : Int) = (t.N : Int) + 1 from by omega] at hmu
              have k10 : MCells T g5 M w1.heap.size p t.N a (t.N + 1) cap5 W10 := m10.cells
              have k11 : MCells T g5 M w1.heap.size p t.N a (t.N + 1) cap5 W11 := m11.cells
              have hS0 : W10.cell? ⟨T, 3, none⟩ = some (.map (some M)) ∧ W10.cell? ⟨w1.heap.size, 1, none⟩ = some (.int .u32 t.N) ∧ W10.cell? ⟨T, 2, none⟩ = some (.slice (some ⟨g5, 0, none⟩) (t.N + 1) cap5) := ⟨k10.t3', k10.b1, k10.t2⟩
              have hS2 : W11.cell? ⟨T, 3, none⟩ = some (.map (some M)) ∧ W11.cell? ⟨w1.heap.size, 1, none⟩ = some (.int .u32 t.N) ∧ W11.cell? ⟨T, 2, none⟩ = some (.slice (some ⟨g5, 0, none⟩) (t.N + 1) cap5) := ⟨k11.t3', k11.b1, k11.t2⟩
              have hNi1 : IntKind.u32.wrap ((t.N : Int) + 1) = (t.N : Int) + 1 := by have := HN.out; rw [IntKind.wrap_u32]; omega
              clear k10 hNi
              go_region_held3 (fun w' => w'.cell? ⟨T, 3, none⟩ = some (.map (some M)) ∧ w'.cell? ⟨w1.heap.size, 1, none⟩ = some (.int .u32 t.N) ∧ w'.cell? ⟨T, 2, none⟩ = some (.slice (some ⟨g5, 0, none⟩) (t.N + 1) cap5))
                (first | assumption | go_keep)
                (first
                  | (go_at_call 13; refine (kidKey_walk t.N c.toNat _ hN24.out hcl).mono ?_; rintro e w' ⟨rfl, hb⟩; have hS := add_same hb (by assumption)))
              all_goals
                clear hmu hS0 hS2 hS hNi1
                obtain ⟨g12, cap12, W12, happ, u2, fu2, m12⟩ := m11.addE (x := s.extract n s.size) hB (by show t.N + 1 < 100000; have := HN.out; omega) (by rw [ByteArray.size_extract]; omega)
                obtain ⟨t2, t3, t3', ft2, b0, b1, b2, fb1⟩ := k11
                clear t3 t3' b0 b1 b2 fb1 m10
                go_wp2_with fail
                have t2a : (W11.alloc (.cells #[.string (s.extract n s.size)] 9)).cell? ⟨T, 2, none⟩ = some (.slice (some ⟨g5, 0, none⟩) (t.N + 1) cap5) := cell_al t2 _
                go_region_law (refine step_append_raw rfl (.tmp 106) (.tmp 110) 52 rfl _ _ _ _ (by first | rfl | (simp [Act.eval, Act.put]; done) | (simp [Act.eval, Act.put]; rfl)) (by first | rfl | (simp [Act.eval, Act.put]; done) | (simp [Act.eval, Act.put]; rfl)) happ ?_)
                all_goals
                  go_end0
                  exact ⟨⟨_, rfl⟩, fin_in hf Hrun.out Hc.out HE.out HA.out.1 HA.out.2 He0.out Hf.out hndN Hst.out m12⟩
    · have hale : Hid (¬ a < (t.e nd).length) := by show ¬ a < (t.e nd).length; omega
      have ha' : ¬ (a : Int) < ((str nd).size : Int) := by omega
      clear hEl haL ha0 ha
      go_wp2_with fail
      generalize hW : w1.alloc (.cells #[.int .u32 p, .int .u32 nd, .int .i64 a] 80) = W at m0 ⊢
      have hAs : Hid (w.heap.size ≤ w1.heap.size) := hb.size
      clear hW hb
      obtain ⟨t2, t3, t3', ft2, b0, b1, b2, fb1⟩ := m0.cells
      have ed := m0.edge hndN
      generalize str nd = E at ed ha' hEs
      clear t3
      go_quiet (fail)
      have m1 := m0.drewN nq
      clear m0 t2 t3' ft2 b0 b1 b2 fb1 ed
      generalize W.drewN nq = W1 at m1 ⊢
      obtain ⟨t2, t3, t3', ft2, b0, b1, b2, fb1⟩ := m1.cells
      clear t3
      go_wp2_with fail
      obtain ⟨es2, clock2, W2, hmu, m2⟩ := m1.setK (q := t.N) hnd24.out c
      have k2 := m2.cells
      have hS0 : W1.cell? ⟨T, 3, none⟩ = some (.map (some M)) ∧ W1.cell? ⟨w1.heap.size, 1, none⟩ = some (.int .u32 nd) ∧ W1.cell? ⟨T, 2, none⟩ = some (.slice (some ⟨g, 0, none⟩) t.N cap) := ⟨t3', b1, t2⟩
      have hS2 : W2.cell? ⟨T, 3, none⟩ = some (.map (some M)) ∧ W2.cell? ⟨w1.heap.size, 1, none⟩ = some (.int .u32 nd) ∧ W2.cell? ⟨T, 2, none⟩ = some (.slice (some ⟨g, 0, none⟩) t.N cap) := ⟨k2.t3', k2.b1, k2.t2⟩
      have hNi : IntKind.u32.wrap (t.N : Int) = (t.N : Int) := by have := HN.out; rw [IntKind.wrap_u32]; omega
      clear t2 t3' ft2 b0 b1 b2 fb1 k2
      go_region_held3 (fun w' => w'.cell? ⟨T, 3, none⟩ = some (.map (some M)) ∧ w'.cell? ⟨w1.heap.size, 1, none⟩ = some (.int .u32 nd) ∧ w'.cell? ⟨T, 2, none⟩ = some (.slice (some ⟨g, 0, none⟩) t.N cap))
        (first | assumption | go_keep)
        (first
          | (go_at_call 13; refine (kidKey_walk nd c.toNat _ hnd24.out hcl).mono ?_; rintro e w' ⟨rfl, hb⟩; have hS := add_same hb (by assumption)))
      all_goals
        clear hmu hS0 hNi
        obtain ⟨g3, cap3, W3, happ, u2, fu2, m3⟩ := m2.addE (x := s.extract n s.size) hB (by show t.N < 100000; have := HN.out; omega) (by rw [ByteArray.size_extract]; omega)
        obtain ⟨t2, t3, t3', ft2, b0, b1, b2, fb1⟩ := m2.cells
        go_wp2_with fail
        have t2a : (W2.alloc (.cells #[.string (s.extract n s.size)] 9)).cell? ⟨T, 2, none⟩ = some (.slice (some ⟨g, 0, none⟩) t.N cap) := cell_al t2 _
        go_region_law (refine step_append_raw rfl (.tmp 106) (.tmp 110) 52 rfl _ _ _ _ (by first | rfl | (simp [Act.eval, Act.put]; done) | (simp [Act.eval, Act.put]; rfl)) (by first | rfl | (simp [Act.eval, Act.put]; done) | (simp [Act.eval, Act.put]; rfl)) happ ?_)
        all_goals
          go_end0
          exact ⟨⟨_, rfl⟩, fin_end hf Hrun.out Hc.out hale.out Hst.out m3⟩
  · have hall : n = s.size := by omega
    have heq : ((n : Int) == (s.size : Int)) = true := by simp; omega
    have HH : Hid (Has t (bl s)) := by
      have h0 := Hrun.out
      rw [List.take_of_length_le (by rw [bl_len]; omega)] at h0
      exact ⟨_, h0⟩
    clear hlt hall Hstop haL ha0
    go_wp2
    exact bodyPost_ret (results_none Yba.results14 _ _ _) rfl ⟨⟨_, rfl⟩, g, cap, str, es, clock, t, m0.own, ⟨hf, fun _ h => h⟩, HH.out, by omega, m0.chg, .inl rfl⟩
end Go.Proofs.Ybulkalji
