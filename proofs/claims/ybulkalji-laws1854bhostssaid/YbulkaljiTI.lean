import Derived.Test.YbulkaljiTH
namespace Go.Proofs.Ybulkalji
open Go.RowKit
set_option linter.unusedVariables false
set_option linter.unusedSimpArgs false

section
variable {w w' : World} {B T R M : Nat} {nm : Nat → ByteArray} {seen : Nat → Bool} {n i : Nat} {hv : Value} {g cap : Nat} {str : Nat → ByteArray} {es : Array MapEntry} {clock : Nat} {t : Tr} {ns nN : Nat}

/-- What addHost leaves. -/
def Hosted (w : World) (B T R M : Nat) (nm : Nat → ByteArray) (seen : Nat → Bool) (n i hh : Nat) (w' : World) : Prop :=
  Below B w w' ∧ ∃ hv' g' cap' str' es' clock' t', Spl w' B T R M nm (fun j => seen j || j == hh) (max n (hh + 1)) (i + 1) hv' g' cap' str' es' clock' t'

theorem Nms.keep (N : Nms w B R ns nN nm) (hb : Below B w w') : Nms w' B R ns nN nm := by
  obtain ⟨ncap, h1, h2⟩ := N.run
  exact ⟨⟨ncap, (hb.cell N.low.1).trans h1, h2⟩, fun j hj => (hb.cell N.low.2).trans (N.name j hj), N.low, N.short, N.few⟩

/-- host[hh] = true, at a world that is the splitter's. -/
theorem Spl.mark (S : Spl w B T R M nm seen n i hv g cap str es clock t) {hb hcap hh : Nat} (e : hv = .slice (some ⟨hb, 0, none⟩) n hcap) (hh_ : hh < n) :
    Own (w.setCell ⟨hb, hh, none⟩ (.bool true)) B T g cap M (.pointer (some ⟨R, 0, none⟩)) hv str es clock t ∧ (w.setCell ⟨hb, hh, none⟩ (.bool true)).ownsRow B 4 1 hv n (bools (fun j => seen j || j == hh) n) ∧ Below B w (w.setCell ⟨hb, hh, none⟩ (.bool true)) := by
  subst e
  have gs := gb_set w ⟨hb, hh, none⟩ (.bool true)
  refine ⟨S.own.grown gs (fun k hk => by simp only [Option.some.injEq] at hk; subst hk; exact S.own.apart S.host hb rfl), ?_, ?_⟩
  · have := (S.host.stored hh (.bool true)).1
    rw [bools_set] at this
    exact this
  · exact (Below.refl _ _).setCell (S.host.lt hb rfl).1 _

/-- The end of addHost, no quote in the name. -/
theorem fin_plain (S : Spl w B T R M nm seen n i hv g cap str es clock t) {hh : Nat} (hh_ : hh < n) (hq : lq (nm hh) < 0) {W : World} (ho : Own W B T g cap M (.pointer (some ⟨R, 0, none⟩)) hv str es clock t) (hr : W.ownsRow B 4 1 hv n (bools (fun j => seen j || j == hh) n)) (hb : Below B w W) : Hosted w B T R M nm seen n i hh W := by
  refine ⟨hb, hv, g, cap, str, es, clock, t, ho, ?_, S.fine, fun j hj h0 => ?_, fun h => S.none_ fun j hj => h j (by simp [hj]), by have := S.few; omega, fun j hj => ?_, Nat.le_trans S.base hb.size⟩
  · rw [Nat.max_eq_left (by omega)]; exact hr
  · simp only [Bool.or_eq_true, beq_iff_eq] at hj
    rcases hj with hj | rfl
    · exact S.has j hj h0
    · omega
  · have := S.out j (by omega)
    simp [this]; omega

/-- The end of addHost, the name up to its last quote added. -/
theorem fin_quoted (S : Spl w B T R M nm seen n i hv g cap str es clock t) {hh : Nat} (hh_ : hh < n) (hq : 0 ≤ lq (nm hh)) {W W' : World} (hB : B ≤ T ∧ B ≤ M) (ho : Own W B T g cap M (.pointer (some ⟨R, 0, none⟩)) hv str es clock t) (hr : W.ownsRow B 4 1 hv n (bools (fun j => seen j || j == hh) n)) (hb : Below B w W)
    (ha : Added W B T g M (.pointer (some ⟨R, 0, none⟩)) hv t ((nm hh).extract 0 (lq (nm hh) + 1).toNat) W') : Hosted w B T R M nm seen n i hh W' := by
  obtain ⟨g', cap', str', es', clock', t', o', hm, hh', hN, hc, hg'⟩ := ha
  obtain ⟨cur, hgb, hBg, _⟩ := ho.rowBlk
  have hb' : Below B W W' := ⟨hc.os, hc.tape, hc.output, hc.size, fun k hk => by
    rcases Nat.lt_or_ge k W.heap.size with h1 | h1
    · exact hc.block k h1 (by omega) (by omega) (by omega)
    · have := Nat.le_trans S.base hb.size; omega⟩
  rw [bl_to] at hh'
  refine ⟨hb.trans hb', hv, g', cap', str', es', clock', t', o', ?_, hm.1, fun j hj h0 => ?_, fun h => ?_, by have := S.few; omega, fun j hj => ?_, Nat.le_trans S.base (hb.trans hb').size⟩
  · rw [Nat.max_eq_left (by omega)]
    rcases hr with ⟨h1, h2⟩
    refine ⟨h1, ?_⟩
    rcases h2 with h2 | ⟨b, c, cu, hv', hb1, hb2, more⟩
    · exact .inl h2
    · have hap := ho.apart ⟨h1, .inr ⟨b, c, cu, hv', hb1, hb2, more⟩⟩ b (by rw [hv']; rfl)
      exact .inr ⟨b, c, cu, hv', hb1, (hc.block b (Array.getElem?_eq_some_iff.1 hb2).1 hap.1 hap.2.1 hap.2.2).trans hb2, more⟩
  · simp only [Bool.or_eq_true, beq_iff_eq] at hj
    rcases hj with hj | rfl
    · exact hm.2 _ (S.has j hj h0)
    · exact hh'
  · have := h hh (by simp)
    omega
  · have := S.out j (by omega)
    simp [this]; omega

theorem Hosted.back {hh : Nat} {W : World} (h : Hosted w' B T R M nm seen (hh + 1) i hh W) (hb : Below B w w') (hn : n ≤ hh) : Hosted w B T R M nm seen n i hh W := by
  obtain ⟨h1, h2⟩ := h
  refine ⟨hb.trans h1, ?_⟩
  rw [Nat.max_eq_right (by omega)]
  rw [Nat.max_self] at h2
  exact h2

/-- host grown. -/
theorem Spl.grow (S : Spl w B T R M nm seen n i hv g cap str es clock t) {hh : Nat} (h1 : n ≤ hh) (h2 : hh < 256) (hT : B ≤ T) : ∃ hb hcap w2, (Builtin.append_ #[70, 3] 70 #[hv, .int .i64 ((hh : Int) + 1 - (n : Int))]).run Yba.prog w.drew = .ok (.slice (some ⟨hb, 0, none⟩) (hh + 1) hcap) w2 ∧
    w2.cell? ⟨T, 1, none⟩ = some hv ∧ w2.frozen? ⟨T, 1, none⟩ = false ∧ hh + 1 ≤ hcap ∧
    Spl (w2.setCell ⟨T, 1, none⟩ (.slice (some ⟨hb, 0, none⟩) (hh + 1) hcap)) B T R M nm seen (hh + 1) i (.slice (some ⟨hb, 0, none⟩) (hh + 1) hcap) g cap str es clock t ∧ Below B w (w2.setCell ⟨T, 1, none⟩ (.slice (some ⟨hb, 0, none⟩) (hh + 1) hcap)) := by
  have hod : w.drew.ownsRow B 4 1 hv n (bools seen n) := S.host.kept (gb_drew w) (by by_cases e : hv.ownBlock = none; exact .inl e; exact .inr e)
  obtain ⟨v', w2, hrun, hown, gr⟩ := append_zeros hod (hh + 1 - n) (by omega) (by omega) S.base
  rw [show n + (hh + 1 - n) = hh + 1 from by omega, bools_more seen n _ S.out, show n + (hh + 1 - n) = hh + 1 from by omega] at hown
  rw [show ((hh + 1 - n : Nat) : Int) = (hh : Int) + 1 - (n : Int) from by omega] at hrun
  obtain ⟨hb, hcap, rfl, hle⟩ := own_formN hown (by omega)
  have hO : Own w2 B T g cap M (.pointer (some ⟨R, 0, none⟩)) hv str es clock t := (S.own.grown (gb_drew w) (fun k hk => by cases hk)).grown gr (fun k hk => S.own.apart S.host k hk)
  have gs := gb_set w2 ⟨T, 1, none⟩ (.slice (some ⟨hb, 0, none⟩) (hh + 1) hcap)
  have hb1 : Below B w w2 := (Below.refl B w).drew.grown gr S.base (fun k hk => (S.host.lt k hk).1)
  refine ⟨hb, hcap, w2, hrun, (blk_cell hO.blk 1).trans rfl, blk_frozen hO.blk 1, hle, ⟨hO.setH _, hown.kept gs (.inr ?_), S.fine, S.has, S.none_, S.few, fun j hj => S.out j (by omega), ?_⟩, hb1.setCell hT _⟩
  · have := (hO.apart hown hb rfl).1
    simpa [Value.ownBlock] using this
  · have := gs.size
    have := hb1.size
    have := S.base
    omega
end

set_option maxRecDepth 100000 in
set_option maxHeartbeats 1000000 in
theorem addHost_walk (w : World) (B T R M : Nat) (nm : Nat → ByteArray) (seen : Nat → Bool) (n i : Nat) (hv : Value) (g cap : Nat) (str : Nat → ByteArray) (es : Array MapEntry) (clock : Nat) (t : Tr) (ns nN hh : Nat)
    (S : Spl w B T R M nm seen n i hv g cap str es clock t) (N : Nms w B R ns nN nm) (hhN : hh < nN) (hi : i ≤ 2000) (hBT : B ≤ T ∧ B ≤ M) :
    Calls Yba.prog 11 #[.pointer (some ⟨T, 0, none⟩), .int .i32 hh] w fun e w' => (∃ v, e = .returned v) ∧ Hosted w B T R M nm seen n i hh w' := by
  have h256 := N.few
  by_cases hlt : hh < n
  · obtain ⟨hb, hcap, rfl, hcle⟩ := own_formN S.host (by omega)
    have t1 : w.cell? ⟨T, 1, none⟩ = some (.slice (some ⟨hb, 0, none⟩) n hcap) := (blk_cell S.own.blk 1).trans rfl
    have ch : w.cell? ⟨hb, hh, none⟩ = some (.bool (seen hh)) := (S.host.cellAt hh (by omega)).trans (bools_get seen n hh hlt)
    have fh : w.frozen? ⟨hb, hh, none⟩ = false := S.host.frozenAt hh
    have hlt' : (hh : Int) < (n : Int) := by omega
    cases hs : seen hh with
    | true =>
      rw [hs] at ch
      have HS : Hid (seen hh = true) := hs
      clear hs
      go_enter Yba.func11, Yba.ntmps11
      go_wp2
      refine bodyPost_ret (results_none Yba.results11 _ _ _) rfl ⟨⟨_, rfl⟩, Below.refl _ _, .slice (some ⟨hb, 0, none⟩) n hcap, g, cap, str, es, clock, t, ?_⟩
      have e1 : (fun j => seen j || j == hh) = seen := by
        funext j
        by_cases e : j = hh
        · subst e; simp [HS.out]
        · simp [e]
      rw [e1, Nat.max_eq_left (by omega)]
      exact ⟨S.own, S.host, S.fine, S.has, S.none_, by have := S.few; omega, S.out, S.base⟩
    | false =>
      rw [hs] at ch
      clear hs
      obtain ⟨ho, hr, hbl⟩ := S.mark rfl hlt
      have nk := N.keep hbl
      obtain ⟨ncap, nr, ncl⟩ := nk.run
      have nn := nk.name hh hhN
      have hsz := N.short hh hhN
      have T0 : (w.setCell ⟨hb, hh, none⟩ (.bool true)).cell? ⟨T, 0, none⟩ = some (.pointer (some ⟨R, 0, none⟩)) := (blk_cell ho.blk 0).trans rfl
      have hhN' : (hh : Int) < (nN : Int) := by omega
      have hqb := lqN_bounds (nm hh) (nm hh).size
      have hqb1 : -1 ≤ lq (nm hh) := hqb.1
      have hqb2 : lq (nm hh) + 1 ≤ ((nm hh).size : Int) := by have := hqb.2; show lqN _ _ + 1 ≤ _; omega
      clear hqb
      go_enter Yba.func11, Yba.ntmps11
      go_wp2_with fail
      refine (lib_walk (nm hh) _ (by omega)).mono ?_
      rintro e w3 ⟨rfl, rfl⟩
      clear nr nn T0 t1 ch fh nk
      generalize w.setCell ⟨hb, hh, none⟩ (.bool true) = W at ho hr hbl ⊢
      by_cases hq : 0 ≤ lq (nm hh)
      · have hq1 : 0 ≤ lq (nm hh) + 1 := by omega
        have hwq : IntKind.i64.wrap (lq (nm hh) + 1) = lq (nm hh) + 1 := by rw [IntKind.wrap_i64]; omega
        go_wp2_with fail
        have ho' : Own W.drew B T g cap M (.pointer (some ⟨R, 0, none⟩)) _ str es clock t := ho.grown (gb_drew W) (fun k hk => by cases hk)
        have hadd := add_walk W.drew B T g cap M _ _ str es clock t ((nm hh).extract 0 (lq (nm hh) + 1).toNat) ho' S.fine (by rw [ByteArray.size_extract]; omega) (by have := S.few; omega) (Nat.le_trans S.base hbl.size)
        have HA : Hid (Calls Yba.prog 14 #[.pointer (some ⟨T, 2, none⟩), .string ((nm hh).extract 0 (lq (nm hh) + 1).toNat)] W.drew fun e w' => (∃ v, e = .returned v) ∧ Added W.drew B T g M (.pointer (some ⟨R, 0, none⟩)) (.slice (some ⟨hb, 0, none⟩) n hcap) t ((nm hh).extract 0 (lq (nm hh) + 1).toNat) w') := hadd
        clear hadd
        go_region_held3 (fun w' => True) (trivial) (first | (go_at_call 14; refine (show Calls _ _ _ _ _ from HA.out).mono ?_; rintro e w' ⟨⟨v, rfl⟩, hA⟩))
        all_goals
          go_end0
          exact ⟨⟨_, rfl⟩, fin_quoted S hlt hq hBT ho' (hr.kept (gb_drew W) (.inr (by simp [Value.ownBlock]))) hbl.drew hA⟩
      · have hq' : ¬ (0 ≤ lq (nm hh)) := hq
        go_wp2
        go_end0
        exact ⟨⟨_, rfl⟩, fin_plain S hlt (by omega) ho hr hbl⟩
  · obtain ⟨a0, c0, hv0⟩ := own_slice S.host
    obtain ⟨hb, hcap, w2, happ, u1, fu1, hcle, S2, hbel⟩ := S.grow (hh := hh) (by omega) (by omega) hBT.1
    have t1 : w.cell? ⟨T, 1, none⟩ = some hv := (blk_cell S.own.blk 1).trans rfl
    subst hv0
    have hle : (n : Int) ≤ (hh : Int) := by omega
    have hw1 : IntKind.i64.wrap (hh : Int) = (hh : Int) := by rw [IntKind.wrap_i64]; omega
    have hw2 : IntKind.i64.wrap ((hh : Int) + 1) = (hh : Int) + 1 := by rw [IntKind.wrap_i64]; omega
    have hw3 : IntKind.i64.wrap ((hh : Int) + 1 - (n : Int)) = (hh : Int) + 1 - (n : Int) := by rw [IntKind.wrap_i64]; omega
    go_enter Yba.func11, Yba.ntmps11
    go_wp2_with fail
    go_region_law (refine step_append_two rfl (.tmp 18) (.tmp 27) 70 3 rfl _ _ _ _ (by first | rfl | (simp [Act.eval, Act.put]; done) | (simp [Act.eval, Act.put]; rfl)) (by first | rfl | (simp [Act.eval, Act.put]; done) | (simp [Act.eval, Act.put]; rfl)) happ ?_)
    all_goals
      clear happ u1 fu1 t1
      generalize w2.setCell ⟨T, 1, none⟩ (.slice (some ⟨hb, 0, none⟩) (hh + 1) hcap) = W at S2 hbel ⊢
      have t1 : W.cell? ⟨T, 1, none⟩ = some (.slice (some ⟨hb, 0, none⟩) (hh + 1) hcap) := (blk_cell S2.own.blk 1).trans rfl
      have ch : W.cell? ⟨hb, hh, none⟩ = some (.bool (seen hh)) := (S2.host.cellAt hh (by omega)).trans (bools_get seen (hh + 1) hh (by omega))
      rw [S.out hh (by omega)] at ch
      have fh : W.frozen? ⟨hb, hh, none⟩ = false := S2.host.frozenAt hh
      have hnh : n ≤ hh := by omega
      have hself : (hh : Int) < (hh : Int) + 1 := by omega
      obtain ⟨ho, hr, hbl⟩ := S2.mark rfl (Nat.lt_succ_self hh)
      have nk := (N.keep hbel).keep hbl
      obtain ⟨ncap, nr, ncl⟩ := nk.run
      have nn := nk.name hh hhN
      have hsz := N.short hh hhN
      have T0 : (W.setCell ⟨hb, hh, none⟩ (.bool true)).cell? ⟨T, 0, none⟩ = some (.pointer (some ⟨R, 0, none⟩)) := (blk_cell ho.blk 0).trans rfl
      have hhN' : (hh : Int) < (nN : Int) := by omega
      have hqb := lqN_bounds (nm hh) (nm hh).size
      have hqb1 : -1 ≤ lq (nm hh) := hqb.1
      have hqb2 : lq (nm hh) + 1 ≤ ((nm hh).size : Int) := by have := hqb.2; show lqN _ _ + 1 ≤ _; omega
      clear hqb
      go_wp2_with fail
      refine (lib_walk (nm hh) _ (by omega)).mono ?_
      rintro e w3 ⟨rfl, rfl⟩
      clear nr nn T0 t1 ch fh nk
      generalize W.setCell ⟨hb, hh, none⟩ (.bool true) = W' at ho hr hbl ⊢
      by_cases hq : 0 ≤ lq (nm hh)
      · have hq1 : 0 ≤ lq (nm hh) + 1 := by omega
        have hwq : IntKind.i64.wrap (lq (nm hh) + 1) = lq (nm hh) + 1 := by rw [IntKind.wrap_i64]; omega
        go_wp2_with fail
        have ho' : Own W'.drew B T g cap M (.pointer (some ⟨R, 0, none⟩)) _ str es clock t := ho.grown (gb_drew W') (fun k hk => by cases hk)
        have hadd := add_walk W'.drew B T g cap M _ _ str es clock t ((nm hh).extract 0 (lq (nm hh) + 1).toNat) ho' S2.fine (by rw [ByteArray.size_extract]; omega) (by have := S2.few; omega) (Nat.le_trans S2.base hbl.size)
        have HA : Hid (Calls Yba.prog 14 #[.pointer (some ⟨T, 2, none⟩), .string ((nm hh).extract 0 (lq (nm hh) + 1).toNat)] W'.drew fun e w' => (∃ v, e = .returned v) ∧ Added W'.drew B T g M (.pointer (some ⟨R, 0, none⟩)) (.slice (some ⟨hb, 0, none⟩) (hh + 1) hcap) t ((nm hh).extract 0 (lq (nm hh) + 1).toNat) w') := hadd
        clear hadd
        go_region_held3 (fun w' => True) (trivial) (first | (go_at_call 14; refine (show Calls _ _ _ _ _ from HA.out).mono ?_; rintro e w' ⟨⟨v, rfl⟩, hA⟩))
        all_goals
          go_end0
          exact ⟨⟨_, rfl⟩, (fin_quoted S2 (Nat.lt_succ_self hh) hq hBT ho' (hr.kept (gb_drew W') (.inr (by simp [Value.ownBlock]))) hbl.drew hA).back hbel hnh⟩
      · have hq' : ¬ (0 ≤ lq (nm hh)) := hq
        go_wp2
        go_end0
        exact ⟨⟨_, rfl⟩, (fin_plain S2 (Nat.lt_succ_self hh) (by omega) ho hr hbl).back hbel hnh⟩
end Go.Proofs.Ybulkalji
