import Derived.Test.YbulkalmaCC
namespace Go.Proofs.Ybulkalma
open Go.RowKit
set_option linter.unusedVariables false
set_option linter.unusedSimpArgs false
attribute [local go_sem] run_store_flt

/-- The two boxes' cells stay while only new blocks are made; and so does all that is older. -/
theorem s8 {w : World} {B : Nat} {W w' : World} {a0 a1 a2 a3 b0 b1 b2 b3 : Value} (hb : Below W.heap.size W w')
    (h : W.cell? ⟨B, 0, none⟩ = some a0 ∧ W.cell? ⟨B, 1, none⟩ = some a1 ∧ W.cell? ⟨B, 2, none⟩ = some a2 ∧ W.cell? ⟨B, 3, none⟩ = some a3 ∧ W.cell? ⟨B + 1, 0, none⟩ = some b0 ∧ W.cell? ⟨B + 1, 1, none⟩ = some b1 ∧ W.cell? ⟨B + 1, 2, none⟩ = some b2 ∧ W.cell? ⟨B + 1, 3, none⟩ = some b3 ∧ Below w.heap.size w W) :
    w'.cell? ⟨B, 0, none⟩ = some a0 ∧ w'.cell? ⟨B, 1, none⟩ = some a1 ∧ w'.cell? ⟨B, 2, none⟩ = some a2 ∧ w'.cell? ⟨B, 3, none⟩ = some a3 ∧ w'.cell? ⟨B + 1, 0, none⟩ = some b0 ∧ w'.cell? ⟨B + 1, 1, none⟩ = some b1 ∧ w'.cell? ⟨B + 1, 2, none⟩ = some b2 ∧ w'.cell? ⟨B + 1, 3, none⟩ = some b3 ∧ Below w.heap.size w w' := by
  obtain ⟨h0, h1, h2, h3, g0, g1, g2, g3, hl⟩ := h
  have k : ∀ {a : Addr} {v : Value}, W.cell? a = some v → w'.cell? a = some v := fun {a v} h => (hb.cell (World.block_lt_of_cell? W a h)).trans h
  exact ⟨k h0, k h1, k h2, k h3, k g0, k g1, k g2, k g3, hl.trans (hb.mono hl.size)⟩

theorem s8_start {w : World} {a0 a1 a2 a3 b0 b1 b2 b3 : Value} {t : TypeId} {W : World} (hW : W = ((w.alloc (.cells #[a0, a1, a2, a3] t)).alloc (.cells #[b0, b1, b2, b3] t)).drew) :
    W.cell? ⟨w.heap.size, 0, none⟩ = some a0 ∧ W.cell? ⟨w.heap.size, 1, none⟩ = some a1 ∧ W.cell? ⟨w.heap.size, 2, none⟩ = some a2 ∧ W.cell? ⟨w.heap.size, 3, none⟩ = some a3 ∧ W.cell? ⟨w.heap.size + 1, 0, none⟩ = some b0 ∧ W.cell? ⟨w.heap.size + 1, 1, none⟩ = some b1 ∧ W.cell? ⟨w.heap.size + 1, 2, none⟩ = some b2 ∧ W.cell? ⟨w.heap.size + 1, 3, none⟩ = some b3 ∧ Below w.heap.size w W := by
  subst hW
  refine ⟨?_, ?_, ?_, ?_, ?_, ?_, ?_, ?_, (two _ _).drew⟩ <;> simp

set_option maxRecDepth 100000 in
set_option maxHeartbeats 1000000 in
theorem model_law (h l i : Int) (p : Nat) (h' l' i' : Int) (p' : Nat) (w : World) :
    Calls Yba.prog 5 #[.agg #[.int .u64 h, .int .u64 l, .int .u64 i, .float .f64 p], .agg #[.int .u64 h', .int .u64 l', .int .u64 i', .float .f64 p']] w fun e w' => e = .returned (.bool true) ∧ Below w.heap.size w w' := by
  have HN : Hid ((nearB h l i p h' l' i' p' == modelB h l i p h' l' i' p') = true) := by simp [Hid, near_model]
  go_enter Yba.func5, Yba.ntmps5
  go_wp2
  have hS0 := s8_start (w := w) (a0 := .int .u64 h) (a1 := .int .u64 l) (a2 := .int .u64 i) (a3 := .float .f64 p) (b0 := .int .u64 h') (b1 := .int .u64 l') (b2 := .int .u64 i') (b3 := .float .f64 p') (t := 31) rfl
  go_region_held3 (fun w' => w'.cell? ⟨w.heap.size, 0, none⟩ = some (.int .u64 h) ∧ w'.cell? ⟨w.heap.size, 1, none⟩ = some (.int .u64 l) ∧ w'.cell? ⟨w.heap.size, 2, none⟩ = some (.int .u64 i) ∧ w'.cell? ⟨w.heap.size, 3, none⟩ = some (.float .f64 p)
      ∧ w'.cell? ⟨w.heap.size + 1, 0, none⟩ = some (.int .u64 h') ∧ w'.cell? ⟨w.heap.size + 1, 1, none⟩ = some (.int .u64 l') ∧ w'.cell? ⟨w.heap.size + 1, 2, none⟩ = some (.int .u64 i') ∧ w'.cell? ⟨w.heap.size + 1, 3, none⟩ = some (.float .f64 p') ∧ Below w.heap.size w w')
    (first | assumption | go_keep)
    (first
      | (go_at_call 9; refine (mk_any _ _ _ _ _).mono ?_; rintro e w' ⟨rfl, hb⟩; have hS := s8 hb (by assumption))
      | (go_at_call 10; refine (near_any _ _ _ _ _ _ _ _ _).mono ?_; rintro e w' ⟨rfl, hb⟩; have hS := s8 hb (by assumption))
      | (go_at_call 11; refine (cmodel_any _ _ _ _ _ _ _ _ _).mono ?_; rintro e w' ⟨rfl, hb⟩; have hS := s8 hb (by assumption)))
  all_goals
    go_wp2
    go_ret
    exact ⟨retv (congrArg Value.bool HN.out), hS.2.2.2.2.2.2.2.2⟩

theorem keepb {W w' : World} {b : Nat} {o : Obj} (hb : Below W.heap.size W w') (h : W.heap[b]? = some o) : w'.heap[b]? = some o := (hb.block b (Array.getElem?_eq_some_iff.1 h).1).trans h
theorem keepa {W : World} {b : Nat} {o : Obj} (o' : Obj) (h : W.heap[b]? = some o) : (W.alloc o').heap[b]? = some o := ((MapKept.heap_alloc W o').2 b (Array.getElem?_eq_some_iff.1 h).1).trans h
theorem cell4 {W : World} {b : Nat} {a0 a1 a2 a3 : Value} {t : TypeId} (h : W.heap[b]? = some (.cells #[a0, a1, a2, a3] t (0, 0))) : W.cell? ⟨b, 0, none⟩ = some a0 ∧ W.cell? ⟨b, 1, none⟩ = some a1 ∧ W.cell? ⟨b, 2, none⟩ = some a2 ∧ W.cell? ⟨b, 3, none⟩ = some a3 := by
  simp [World.cell?, h]

/-- Four blocks. -/
structure Four (w : World) (h l i : Int) (p : Nat) (h' l' i' : Int) (p' : Nat) (C D : Nat) (W : World) : Prop where
  below : Below w.heap.size w W
  a : W.heap[w.heap.size]? = some (.cells #[.int .u64 h, .int .u64 l, .int .u64 i, .float .f64 p] 31 (0, 0))
  b : W.heap[w.heap.size + 1]? = some (.cells #[.int .u64 h', .int .u64 l', .int .u64 i', .float .f64 p'] 31 (0, 0))
  c : W.heap[C]? = some (.cells #[.int .u64 h, .int .u64 l, .int .u64 i, .float .f64 p] 35 (0, 0))
  d : W.heap[D]? = some (.cells #[.int .u64 h', .int .u64 l', .int .u64 i', .float .f64 p'] 35 (0, 0))

theorem Four.keep {w : World} {h l i : Int} {p : Nat} {h' l' i' : Int} {p' : Nat} {C D : Nat} {W w' : World} (f : Four w h l i p h' l' i' p' C D W) (hb : Below W.heap.size W w') : Four w h l i p h' l' i' p' C D w' :=
  ⟨f.below.trans (hb.mono f.below.size), keepb hb f.a, keepb hb f.b, keepb hb f.c, keepb hb f.d⟩
theorem Four.drew {w : World} {h l i : Int} {p : Nat} {h' l' i' : Int} {p' : Nat} {C D : Nat} {W : World} (f : Four w h l i p h' l' i' p' C D W) : Four w h l i p h' l' i' p' C D W.drew :=
  ⟨f.below.drew, f.a, f.b, f.c, f.d⟩

/-- What the drawn region reads, and what is kept beside it. -/
theorem Four.held {w : World} {h l i : Int} {p : Nat} {h' l' i' : Int} {p' : Nat} {C D : Nat} {w' : World} (f : Four w h l i p h' l' i' p' C D w') :
    w'.cell? ⟨C, 0, none⟩ = some (.int .u64 h) ∧ w'.cell? ⟨C, 1, none⟩ = some (.int .u64 l) ∧ w'.cell? ⟨C, 2, none⟩ = some (.int .u64 i) ∧ w'.cell? ⟨C, 3, none⟩ = some (.float .f64 p)
      ∧ w'.cell? ⟨D, 0, none⟩ = some (.int .u64 h') ∧ w'.cell? ⟨D, 1, none⟩ = some (.int .u64 l') ∧ w'.cell? ⟨D, 2, none⟩ = some (.int .u64 i') ∧ w'.cell? ⟨D, 3, none⟩ = some (.float .f64 p') ∧ Four w h l i p h' l' i' p' C D w' := by
  obtain ⟨c0, c1, c2, c3⟩ := cell4 f.c
  obtain ⟨d0, d1, d2, d3⟩ := cell4 f.d
  exact ⟨c0, c1, c2, c3, d0, d1, d2, d3, f⟩

theorem held_keep {w : World} {h l i : Int} {p : Nat} {h' l' i' : Int} {p' : Nat} {C D : Nat} {W w' : World} (hb : Below W.heap.size W w')
    (hS : W.cell? ⟨C, 0, none⟩ = some (.int .u64 h) ∧ W.cell? ⟨C, 1, none⟩ = some (.int .u64 l) ∧ W.cell? ⟨C, 2, none⟩ = some (.int .u64 i) ∧ W.cell? ⟨C, 3, none⟩ = some (.float .f64 p)
      ∧ W.cell? ⟨D, 0, none⟩ = some (.int .u64 h') ∧ W.cell? ⟨D, 1, none⟩ = some (.int .u64 l') ∧ W.cell? ⟨D, 2, none⟩ = some (.int .u64 i') ∧ W.cell? ⟨D, 3, none⟩ = some (.float .f64 p') ∧ Four w h l i p h' l' i' p' C D W) :
    w'.cell? ⟨C, 0, none⟩ = some (.int .u64 h) ∧ w'.cell? ⟨C, 1, none⟩ = some (.int .u64 l) ∧ w'.cell? ⟨C, 2, none⟩ = some (.int .u64 i) ∧ w'.cell? ⟨C, 3, none⟩ = some (.float .f64 p)
      ∧ w'.cell? ⟨D, 0, none⟩ = some (.int .u64 h') ∧ w'.cell? ⟨D, 1, none⟩ = some (.int .u64 l') ∧ w'.cell? ⟨D, 2, none⟩ = some (.int .u64 i') ∧ w'.cell? ⟨D, 3, none⟩ = some (.float .f64 p') ∧ Four w h l i p h' l' i' p' C D w' :=
  (hS.2.2.2.2.2.2.2.2.keep hb).held

set_option maxRecDepth 100000 in
set_option maxHeartbeats 1000000 in
theorem antisym_law (h l i : Int) (p : Nat) (h' l' i' : Int) (p' : Nat) (w : World) :
    Calls Yba.prog 6 #[.agg #[.int .u64 h, .int .u64 l, .int .u64 i, .float .f64 p], .agg #[.int .u64 h', .int .u64 l', .int .u64 i', .float .f64 p']] w fun e w' => e = .returned (.bool true) ∧ Below w.heap.size w w' := by
  go_enter Yba.func6, Yba.ntmps6
  go_wp2_with fail
  refine (mk_any h l i p _).mono ?_
  rintro e w1 ⟨rfl, hb1⟩
  have bel1 : Below w.heap.size w w1 := (two _ _).trans (hb1.mono (by simp; omega))
  have A1 : w1.heap[w.heap.size]? = some (.cells #[.int .u64 h, .int .u64 l, .int .u64 i, .float .f64 p] 31 (0, 0)) := keepb hb1 (keepa _ (MapKept.heap_alloc w _).1)
  have B1 : w1.heap[w.heap.size + 1]? = some (.cells #[.int .u64 h', .int .u64 l', .int .u64 i', .float .f64 p'] 31 (0, 0)) := keepb hb1 (by have := (MapKept.heap_alloc (w.alloc (.cells #[.int .u64 h, .int .u64 l, .int .u64 i, .float .f64 p] 31)) (.cells #[.int .u64 h', .int .u64 l', .int .u64 i', .float .f64 p'] 31)).1; simpa using this)
  clear hb1
  have q0 := fun o => (cell4 (keepa (W := w1) o B1)).1
  have q1 := fun o => (cell4 (keepa (W := w1) o B1)).2.1
  have q2 := fun o => (cell4 (keepa (W := w1) o B1)).2.2.1
  have q3 := fun o => (cell4 (keepa (W := w1) o B1)).2.2.2
  go_wp2_with fail
  refine (mk_any h' l' i' p' _).mono ?_
  rintro e w2 ⟨rfl, hb2⟩
  clear q0 q1 q2 q3
  have hs1 := bel1.size
  have bel2 : Below w.heap.size w w2 := (bel1.alloc hs1 _).trans (hb2.mono (by simp; omega))
  have A2 := keepb hb2 (keepa _ A1)
  have B2 := keepb hb2 (keepa _ B1)
  have C2 : w2.heap[w1.heap.size]? = some (.cells #[.int .u64 h, .int .u64 l, .int .u64 i, .float .f64 p] 35 (0, 0)) := keepb hb2 (MapKept.heap_alloc w1 _).1
  have hs2 := bel2.size
  clear hb2 A1 B1
  have c0 := fun o => (cell4 (keepa (W := w2) o C2)).1
  have c1 := fun o => (cell4 (keepa (W := w2) o C2)).2.1
  have c2 := fun o => (cell4 (keepa (W := w2) o C2)).2.2.1
  have c3 := fun o => (cell4 (keepa (W := w2) o C2)).2.2.2
  go_wp2_with fail
  refine (near_any h l i p h' l' i' p' _).mono ?_
  rintro e w3 ⟨rfl, hb3⟩
  have F3 : Four w h l i p h' l' i' p' w1.heap.size w2.heap.size w3 := ⟨(bel2.alloc hs2 _).trans (hb3.mono (by simp; omega)), keepb hb3 (keepa _ A2), keepb hb3 (keepa _ B2), keepb hb3 (keepa _ C2), keepb hb3 (MapKept.heap_alloc w2 _).1⟩
  clear hb3 c0 c1 c2 c3 A2 B2 C2
  generalize w1.heap.size = C at *
  generalize w2.heap.size = D at *
  obtain ⟨c0, c1, c2, c3⟩ := cell4 F3.c
  obtain ⟨d0, d1, d2, d3⟩ := cell4 F3.d
  go_wp2_with fail
  refine (near_any h' l' i' p' h l i p _).mono ?_
  rintro e w4 ⟨rfl, hb4⟩
  have F4 := F3.keep hb4
  clear hb4 F3 c0 c1 c2 c3 d0 d1 d2 d3 bel1 bel2 hs1 hs2
  have hS0 := F4.drew.held
  have hbd := cmpC_bd h' l' i' p' h l i p
  have hne : (cmpC h l i p h' l' i' p' != IntKind.i64.wrap (- cmpC h' l' i' p' h l i p)) = false := by rw [IntKind.wrap_i64, cmpC_neg h l i p h' l' i' p', bne_eq_false_iff_eq]; omega
  have HA : Hid (¬ (nearB h l i p h' l' i' p' = true ∧ nearB h' l' i' p' h l i p = true)) := near_asym h l i p h' l' i' p'
  have HT : Hid (ordF p p' = some .eq → ¬ (h = h' ∧ l = l' ∧ i = i') → nearB h l i p h' l' i' p' ≠ nearB h' l' i' p' h l i p) := near_total h l i p h' l' i' p'
  generalize nearB h l i p h' l' i' p' = x at *
  generalize nearB h' l' i' p' h l i p = y at *
  have hxy : (x = true → y = false) := by have := HA.out; cases x <;> cases y <;> simp_all
  clear HA
  cases x
  · clear hxy
    go_wp2_with fail
    go_region_held3 (fun w' => w'.cell? ⟨C, 0, none⟩ = some (.int .u64 h) ∧ w'.cell? ⟨C, 1, none⟩ = some (.int .u64 l) ∧ w'.cell? ⟨C, 2, none⟩ = some (.int .u64 i) ∧ w'.cell? ⟨C, 3, none⟩ = some (.float .f64 p)
      ∧ w'.cell? ⟨D, 0, none⟩ = some (.int .u64 h') ∧ w'.cell? ⟨D, 1, none⟩ = some (.int .u64 l') ∧ w'.cell? ⟨D, 2, none⟩ = some (.int .u64 i') ∧ w'.cell? ⟨D, 3, none⟩ = some (.float .f64 p') ∧ Four w h l i p h' l' i' p' C D w')
      (first | assumption | go_keep)
      (first
        | (go_at_call 12; refine (compare_any _ _ _ _ _ _ _ _ _).mono ?_; rintro e w' ⟨rfl, hb⟩; have hS := held_keep hb (by assumption); clear hb))
    all_goals
      have F5 := hS.2.2.2.2.2.2.2.2
      clear hS hS0 F4
      obtain ⟨a0, a1, a2, a3⟩ := cell4 F5.a
      obtain ⟨b0, b1, b2, b3⟩ := cell4 F5.b
      by_cases he : ordF p p' = some .eq
      · have hT := HT.out he
        have he' : (FloatKind.f64.format.order p p' == some .eq) = true := by have : FloatKind.f64.format.order p p' = some .eq := he; rw [this]; rfl
        clear he HT
        by_cases e1 : h = h'
        · have t1 : (h != h') = false := by simp [e1]
          by_cases e2 : l = l'
          · have t2 : (l != l') = false := by simp [e2]
            by_cases e3 : i = i'
            · have t3 : (i != i') = false := by simp [e3]
              clear hT e1 e2 e3
              go_wp2
              go_ret
              exact ⟨rfl, F5.below⟩
            · have t3 : (i != i') = true := by simp [e3]
              have HX : Hid (false ≠ y) := hT (fun e => e3 e.2.2)
              clear hT e1 e2 e3
              go_wp2
              go_ret
              exact ⟨retv (congrArg Value.bool (by cases y with | false => exact absurd rfl HX.out | true => rfl)), F5.below⟩
          · have t2 : (l != l') = true := by simp [e2]
            have HX : Hid (false ≠ y) := hT (fun e => e2 e.2.1)
            clear hT e1 e2
            go_wp2
            go_ret
            exact ⟨retv (congrArg Value.bool (by cases y with | false => exact absurd rfl HX.out | true => rfl)), F5.below⟩
        · have t1 : (h != h') = true := by simp [e1]
          have HX : Hid (false ≠ y) := hT (fun e => e1 e.1)
          clear hT e1
          go_wp2
          go_ret
          exact ⟨retv (congrArg Value.bool (by cases y with | false => exact absurd rfl HX.out | true => rfl)), F5.below⟩
      · have he' : (FloatKind.f64.format.order p p' == some .eq) = false := by have : ¬ FloatKind.f64.format.order p p' = some .eq := he; simpa using this
        clear he HT
        go_wp2
        go_ret
        exact ⟨rfl, F5.below⟩
  · obtain rfl : y = false := hxy rfl
    clear hxy
    go_wp2_with fail
    go_region_held3 (fun w' => w'.cell? ⟨C, 0, none⟩ = some (.int .u64 h) ∧ w'.cell? ⟨C, 1, none⟩ = some (.int .u64 l) ∧ w'.cell? ⟨C, 2, none⟩ = some (.int .u64 i) ∧ w'.cell? ⟨C, 3, none⟩ = some (.float .f64 p)
      ∧ w'.cell? ⟨D, 0, none⟩ = some (.int .u64 h') ∧ w'.cell? ⟨D, 1, none⟩ = some (.int .u64 l') ∧ w'.cell? ⟨D, 2, none⟩ = some (.int .u64 i') ∧ w'.cell? ⟨D, 3, none⟩ = some (.float .f64 p') ∧ Four w h l i p h' l' i' p' C D w')
      (first | assumption | go_keep)
      (first
        | (go_at_call 12; refine (compare_any _ _ _ _ _ _ _ _ _).mono ?_; rintro e w' ⟨rfl, hb⟩; have hS := held_keep hb (by assumption); clear hb))
    all_goals
      have F5 := hS.2.2.2.2.2.2.2.2
      clear hS hS0 F4
      obtain ⟨a0, a1, a2, a3⟩ := cell4 F5.a
      obtain ⟨b0, b1, b2, b3⟩ := cell4 F5.b
      by_cases he : ordF p p' = some .eq
      · have hT := HT.out he
        have he' : (FloatKind.f64.format.order p p' == some .eq) = true := by have : FloatKind.f64.format.order p p' = some .eq := he; rw [this]; rfl
        clear he HT
        by_cases e1 : h = h'
        · have t1 : (h != h') = false := by simp [e1]
          by_cases e2 : l = l'
          · have t2 : (l != l') = false := by simp [e2]
            by_cases e3 : i = i'
            · have t3 : (i != i') = false := by simp [e3]
              clear hT e1 e2 e3
              go_wp2
              go_ret
              exact ⟨rfl, F5.below⟩
            · have t3 : (i != i') = true := by simp [e3]
              have HX : Hid (true ≠ false) := hT (fun e => e3 e.2.2)
              clear hT e1 e2 e3
              go_wp2
              go_ret
              exact ⟨retv (congrArg Value.bool (by exact bne_iff_ne.2 HX.out)), F5.below⟩
          · have t2 : (l != l') = true := by simp [e2]
            have HX : Hid (true ≠ false) := hT (fun e => e2 e.2.1)
            clear hT e1 e2
            go_wp2
            go_ret
            exact ⟨retv (congrArg Value.bool (by exact bne_iff_ne.2 HX.out)), F5.below⟩
        · have t1 : (h != h') = true := by simp [e1]
          have HX : Hid (true ≠ false) := hT (fun e => e1 e.1)
          clear hT e1
          go_wp2
          go_ret
          exact ⟨retv (congrArg Value.bool (by exact bne_iff_ne.2 HX.out)), F5.below⟩
      · have he' : (FloatKind.f64.format.order p p' == some .eq) = false := by have : ¬ FloatKind.f64.format.order p p' = some .eq := he; simpa using this
        clear he HT
        go_wp2
        go_ret
        exact ⟨rfl, F5.below⟩
end Go.Proofs.Ybulkalma
