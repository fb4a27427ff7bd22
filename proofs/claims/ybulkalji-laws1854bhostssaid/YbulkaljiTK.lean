import Derived.Test.YbulkaljiTL
namespace Go.Proofs.Ybulkalji
open Go.RowKit
set_option linter.unusedVariables false
set_option linter.unusedSimpArgs false

set_option maxRecDepth 100000 in
set_option maxHeartbeats 400000 in
theorem bh_big (a a' : Option Addr) (nl cn tl ct : Nat) (w : World) (h : 256 < nl ∨ 1024 < tl) (hm : nl ≤ maxLen) (hm' : tl ≤ maxLen) :
    Calls Yba.prog 4 #[.slice a nl cn, .slice a' tl ct] w fun e w' => e = .returned (.bool true) ∧ Below w.heap.size w w' := by
  unfold maxLen at hm hm'
  by_cases h1 : 256 < nl
  · clear h
    go_enter Yba.func4, Yba.ntmps4
    go_wp2
    go_ret
    exact ⟨rfl, Below.refl _ _⟩
  · have h2 : 1024 < tl := by omega
    clear h
    go_enter Yba.func4, Yba.ntmps4
    go_wp2
    go_ret
    exact ⟨rfl, Below.refl _ _⟩

/-- An argument of strings. -/
structure SrcS (w : World) (a : Option Addr) (len : Nat) (src : Nat → ByteArray) : Prop where
  form : 0 < len → ∃ b off, a = some ⟨b, off, none⟩ ∧ ∀ j, j < len → w.cell? ⟨b, off + j, none⟩ = some (.string (src j))
  short : ∀ j, j < len → (src j).size ≤ 140737488355328
/-- An argument of bytes. -/
structure SrcB (w : World) (a : Option Addr) (len : Nat) (z : Nat → Nat) : Prop where
  form : 0 < len → ∃ b off, a = some ⟨b, off, none⟩ ∧ ∀ j, j < len → w.cell? ⟨b, off + j, none⟩ = some (.int .u8 (z j))
  lt : ∀ j, z j < 256

def nmOf (src : Nat → ByteArray) (j : Nat) : ByteArray := if j % 2 = 1 then src j ++ ⟨#[34, 113]⟩ else src j
def mix (nm : Nat → ByteArray) (k j : Nat) : ByteArray := if j < k then nm j else ⟨#[]⟩

def evZ : Value := .agg #[.int .i64 0, .int .u64 0, .int .i64 0, .int .i64 0, .int .i32 0, .int .i32 0, .int .i32 0, .int .u8 0, .bool false]
theorem info56 : (Yba.prog.info? 56).map (fun i => (i.zero, i.size, i.bytes)) = some (some evZ, 9, 48) := by kernel_rfl

theorem ev_new (w : World) (h : Nat) : ∀ j u, (evCells h).toList[j]? = some u → (w.alloc (.cells (evCells h) 56)).cell? ((⟨w.heap.size, 0, none⟩ : Addr).add j) = some u := by
  intro j u hj
  have hb := (MapKept.heap_alloc w (.cells (evCells h) 56)).1
  have hc := blk_cell hb j
  rw [show ((⟨w.heap.size, 0, none⟩ : Addr).add j) = ⟨w.heap.size, j, none⟩ from by
    by_cases h0 : j = 0
    · subst h0; simp [Addr.add]
    · simp [Addr.add, h0]]
  rw [hc]
  simpa using hj
theorem ev_one (h : Nat) : ∀ u ∈ (evCells h).toList, u.oneCell' = true := by
  intro u hu
  simp [evCells] at hu
  rcases hu with rfl | rfl | rfl | rfl | rfl | rfl | rfl | rfl | rfl <;> rfl
theorem nm_short {w : World} {a : Option Addr} {len : Nat} {src : Nat → ByteArray} (h : SrcS w a len src) : ∀ j, j < len → (nmOf src j).size ≤ 281474976710000 := by
  intro j hj
  have := h.short j hj
  unfold nmOf
  split
  · rw [ByteArray.size_append]
    have e : (⟨#[34, 113]⟩ : ByteArray).size = 2 := rfl
    omega
  · omega
theorem made_bools (hs : Nat → Nat) (n : Nat) : (madeCells (Value.bool false).cells (n * 1)).toList = bools (seenN hs 0) n := by
  apply List.ext_getElem?
  intro i
  by_cases h : i < n
  · simp [madeCells, bools, seenN, h, Value.cells, Nat.mod_one]
  · simp [madeCells, bools, h]
theorem made_strs (nm : Nat → ByteArray) (n : Nat) : (madeCells (Value.string ⟨#[]⟩).cells (n * 1)).toList = strs (mix nm 0) n := by
  apply List.ext_getElem?
  intro i
  by_cases h : i < n
  · simp [madeCells, strs, mix, h, Value.cells, Nat.mod_one]
  · simp [madeCells, strs, h]

theorem mix_set (nm : Nat → ByteArray) (n k : Nat) : (strs (mix nm k) n).set k (.string (nm k)) = strs (mix nm (k + 1)) n := by
  rw [strs_set]
  congr 1
  funext j
  unfold mix
  by_cases e : j = k
  · subst e; simp
  · simp only [e, if_false]
    by_cases h : j < k
    · simp [h, show j < k + 1 from by omega]
    · simp [h, show ¬ j < k + 1 from by omega]

theorem wantN_le (hs : Nat → Nat) (nl : Nat) : ∀ k, (∀ j, j < k → hs j < nl) → wantN hs k ≤ nl
  | 0, _ => Nat.zero_le _
  | k + 1, h => by
    have h1 := wantN_le hs nl k (fun j hj => h j (by omega))
    have h2 := h k (by omega)
    simp only [wantN]
    omega

/-- One of the first names that are seen has a quote. -/
def anyN (seen : Nat → Bool) (nm : Nat → ByteArray) : Nat → Bool
  | 0 => false
  | i + 1 => anyN seen nm i || (seen i && decide (0 ≤ lq (nm i)))

theorem anyN_false (seen : Nat → Bool) (nm : Nat → ByteArray) : ∀ n, anyN seen nm n = false → ∀ j, j < n → seen j = true → lq (nm j) < 0
  | 0, _, j, hj, _ => by omega
  | n + 1, h, j, hj, hs => by
    simp only [anyN, Bool.or_eq_false_iff] at h
    by_cases e : j = n
    · subst e
      have := h.2
      rw [hs] at this
      simpa using this
    · exact anyN_false seen nm n h.1 j (by omega) hs

theorem len71 {w : World} {M clock : Nat} (h : w.heap[M]? = some (.map #[] clock)) : (Builtin.len_ #[71] 3 #[.map (some M)]).run Yba.prog w = .ok (.int .i64 0) w := run_len_map _ 71 3 M #[] clock (by kernel_rfl) h

attribute [local go_sem] neq57 eql63 eql71 neq74 neq60
set_option maxRecDepth 100000 in
set_option maxHeartbeats 2000000 in
theorem bh_ok (a a' : Option Addr) (nl cn tl ct : Nat) (src : Nat → ByteArray) (z : Nat → Nat) (w : World) (hn : nl ≤ 256) (ht : tl ≤ 1024) (hA : SrcS w a nl src) (hZ : SrcB w a' tl z) :
    Calls Yba.prog 4 #[.slice a nl cn, .slice a' tl ct] w fun e w' => e = .returned (.bool true) ∧ Below w.heap.size w w' := by
  obtain ⟨i9, hi9, hz90, hz91, hz92⟩ := info_parts info9
  obtain ⟨i4, hi4, hz40, hz41, hz42⟩ := info_parts info4
  obtain ⟨i5, hi5, hz50, hz51, hz52⟩ := info_parts info56
  go_enter Yba.func4, Yba.ntmps4
  go_wp2_with (at_make; refine wpList_make_full _ rfl _ _ 52 rfl w.heap.size 9 i9 (.string ⟨#[]⟩) 1 Yba.underlying52 hi9 hz90 hz91 .i64 .i64 _ _ nl rfl rfl rfl rfl (by rw [hz92]; omega) (by unfold maxLen; omega) (Nat.le_refl _) ?_; intro w1 hown1 hgr1)
  rw [made_strs (nmOf src)] at hown1
  go_loopw [36] (fun v wr => ∃ k : Nat, k ≤ nl ∧ v = .int .i64 k ∧ wr.ownsRow w.heap.size 9 1 (.slice (some ⟨w.heap.size, 0, none⟩) nl nl) nl (strs (mix (nmOf src) k) nl) ∧ Below w.heap.size w wr) (fun v _ => nl - (intOf v).toNat)
  case atStart => exact ⟨0, Nat.zero_le _, rfl, hown1, (Below.refl _ _).grown hgr1 (Nat.le_refl _) (fun k hk => by cases hk)⟩
  case round =>
    obtain ⟨k, hk, rfl, hown, hb⟩ := hrel
    by_cases hlt : k < nl
    · obtain ⟨b, off, rfl, hc⟩ := hA.form (by omega)
      have hsh := hA.short k hlt
      have ck : wr.cell? ⟨b, off + k, none⟩ = some (.string (src k)) := keepc hb (hc k hlt)
      have dk := (hown.cellAt k (by omega)).trans (strs_get _ nl k hlt)
      have fk := hown.frozenAt k
      have hlt' : (k : Int) < (nl : Int) := by omega
      have hset : ∀ x, x = nmOf src k → (wr.setCell ⟨w.heap.size, k, none⟩ (.string x)).ownsRow w.heap.size 9 1 (.slice (some ⟨w.heap.size, 0, none⟩) nl nl) nl (strs (mix (nmOf src) (k + 1)) nl) := by
        rintro x rfl
        have := (hown.stored k (.string (nmOf src k))).1
        rw [mix_set] at this
        exact this
      by_cases ho : k % 2 = 1
      · have ho' : (k : Int) % 2 = 1 := by omega
        have hx := hset (src k ++ ⟨#[34, 113]⟩) (by simp [nmOf, ho])
        clear hset
        go_wp2_with fail
        go_roundw
        case rel => exact ⟨k + 1, by omega, by go_num, hx, hb.setCell (by simp) _⟩
        case measure => simp [intOf]; omega
      · have ho' : (k : Int) % 2 = 0 := by omega
        have hx := hset (src k) (by simp [nmOf, ho])
        clear hset
        go_wp2_with fail
        go_roundw
        case rel => exact ⟨k + 1, by omega, by go_num, hx, hb.setCell (by simp) _⟩
        case measure => simp [intOf]; omega
    · have hlt' : ¬ (k : Int) < (nl : Int) := by omega
      have hNS : wr.ownsRow w.heap.size 9 1 (.slice (some ⟨w.heap.size, 0, none⟩) nl nl) nl (strs (nmOf src) nl) := by
        have e : strs (mix (nmOf src) k) nl = strs (nmOf src) nl := by
          unfold strs
          refine List.map_congr_left fun j hj => ?_
          have := List.mem_range.1 hj
          simp [mix, show j < k from by omega]
        rw [e] at hown
        exact hown
      clear hown hown1 hgr1
      obtain ⟨wa, hwa⟩ : ∃ y, y = wr := ⟨wr, rfl⟩
      subst hwa
      go_wp2_with (at_make; refine wpList_make_own _ rfl _ _ 53 rfl w.heap.size 56 i5 evZ 9 Yba.underlying53 hi5 hz50 hz51 .i64 .i64 _ tl rfl rfl rfl (by rw [hz52]; omega) (by unfold maxLen; omega) hb.size ?_; intro w2 hown2 hgr2)
      · -- the events' loop
        rename_i hpos
        have hnl : 0 < nl := by omega
        go_loopw [8, 62] (fun v8 v62 wq => ∃ k2 : Nat, k2 ≤ tl ∧ v62 = .int .i64 k2 ∧ v8 = .slice (some ⟨wa.heap.size, 0, none⟩) k2 tl ∧ wq.ownsRow w.heap.size 56 9 (.slice (some ⟨wa.heap.size, 0, none⟩) k2 tl) k2 (evL (fun j => z j % nl) k2) ∧ wq.ownsRow w.heap.size 9 1 (.slice (some ⟨w.heap.size, 0, none⟩) nl nl) nl (strs (nmOf src) nl) ∧ Below w.heap.size w wq) (fun v8 v62 _ => tl - (intOf v62).toNat)
        case atStart => exact ⟨0, Nat.zero_le _, rfl, rfl, hown2, hNS.kept hgr2 (.inr (by simp [Value.ownBlock])), hb.grown hgr2 hb.size (fun k hk => by cases hk)⟩
        case round =>
          obtain ⟨k2, hk2, rfl, rfl, hev, hns, hbq⟩ := hrel
          have hNSlt : Hid (w.heap.size < wa.heap.size) := (hNS.lt w.heap.size rfl).2
          clear hown2 hgr2 hNS
          by_cases hl2 : k2 < tl
          · obtain ⟨b, off, rfl, hc⟩ := hZ.form (by omega)
            have ck : wr.cell? ⟨b, off + k2, none⟩ = some (.int .u8 (z k2)) := keepc hbq (hc k2 hl2)
            have hz8 := hZ.lt k2
            have hl2' : (k2 : Int) < (tl : Int) := by omega
            obtain ⟨h, Hh⟩ : ∃ h : Nat, Hid (h = z k2 % nl) := ⟨_, rfl⟩
            have hrl : h < nl := by rw [Hh.out]; exact Nat.mod_lt _ hnl
            have hrem : (z k2 : Int) % (nl : Int) = (h : Int) := by rw [Hh.out]; simp
            have htm : Int.tmod (z k2 : Int) (nl : Int) = (h : Int) := by rw [Int.tmod_eq_emod_of_nonneg (by omega)]; exact hrem
            have hw32 : IntKind.i32.wrap (h : Int) = (h : Int) := by rw [IntKind.wrap_i32]; omega
            have hw64 : IntKind.i64.wrap (h : Int) = (h : Int) := by rw [IntKind.wrap_i64]; omega
            have hnl0 : ¬ (nl : Int) = 0 := by omega
            go_wp2_with (at_builtin; refine wpList_append_fits _ rfl _ _ 53 rfl w.heap.size 56 i5 9 Yba.underlying53 hi5 hz51 wa.heap.size k2 tl (evL (fun j => z j % nl) k2) rfl (hev.kept (gb_alloc wr _) (.inr (by simp [Value.ownBlock]))) ⟨wr.heap.size, 0, none⟩ 1 1 (evCells h).toList rfl rfl (ev_new wr h) (ev_one h) (by omega) ?_; intro w4 hev4 hgr4)
            go_roundw
            case rel =>
              refine ⟨k2 + 1, by omega, by go_num, rfl, ?_, ?_, ?_⟩
              · rw [evL_succ, ← Hh.out]; exact hev4
              · exact (hns.kept (gb_alloc wr _) (.inr (by simp [Value.ownBlock]))).kept hgr4 (.inr (by have := hNSlt.out; simp [Value.ownBlock]; omega))
              · exact (hbq.alloc hbq.size _).grown hgr4 (by have := hbq.size; simp; omega) (fun k hk => by simp only [Option.some.injEq] at hk; have := hNSlt.out; omega)
            case measure => simp [intOf]; omega
          · have hl2' : ¬ (k2 : Int) < (tl : Int) := by omega
            have HE := evs_of (ns := w.heap.size) (nl := nl) hev (by omega) (by omega) 68
            have HNm := nms_of (ev := wa.heap.size) (nE := k2) (cap := tl) hns hn (nm_short hA) 68
            go_wp2_with fail
            refine (newSplitter_walk _ wr.heap.size wa.heap.size k2 w.heap.size nl (fun j => z j % nl) (nmOf src) HE HNm (fun j _ => Nat.mod_lt _ hnl)).mono ?_
            rintro e w5 ⟨T, M, rfl, hT, hM, hb5, hv, g, cap, str, es, clock, t, S⟩
            have t0 : w5.cell? ⟨T, 0, none⟩ = some (.pointer (some ⟨wr.heap.size, 0, none⟩)) := (blk_cell S.own.blk 0).trans rfl
            have t3 : w5.cell? ⟨T, 3, none⟩ = some (.map (some M)) := (blk_cell S.own.blk 3).trans rfl
            have t4 : w5.cell? ⟨T, 4, none⟩ = some (.slice none 0 0) := (blk_cell S.own.blk 4).trans rfl
            have t5 : w5.cell? ⟨T, 5, none⟩ = some (.slice none 0 0) := (blk_cell S.own.blk 5).trans rfl
            go_wp2_with (at_make; refine wpList_make_full _ rfl _ _ 70 rfl w5.heap.size 4 i4 (.bool false) 1 Yba.underlying70 hi4 hz40 hz41 .i64 .i64 _ _ nl rfl rfl rfl rfl (by rw [hz42]; omega) (by unfold maxLen; omega) (Nat.le_refl _) ?_; intro w6 hown6 hgr6)
            obtain ⟨wb, hwb⟩ : ∃ y, y = wr := ⟨wr, rfl⟩
            subst hwb
            rw [made_bools (fun j => z j % nl)] at hown6
            have HE5 := HE.keep hb5
            have HN5 := HNm.keep hb5
            have hb6 : Below w5.heap.size w5 w6 := (Below.refl _ _).grown hgr6 (Nat.le_refl _) (fun k hk => by cases hk)
            clear HE HNm t0 t3 t4 t5
            go_loopw [14, 118] (fun v14 v118 wq => ∃ k3 : Nat, k3 ≤ k2 ∧ v118 = .int .i64 k3 ∧ v14 = .int .i64 (wantN (fun j => z j % nl) k3) ∧ wq.ownsRow w5.heap.size 4 1 (.slice (some ⟨w5.heap.size, 0, none⟩) nl nl) nl (bools (seenN (fun j => z j % nl) k3) nl) ∧ Below w5.heap.size w5 wq) (fun v14 v118 _ => k2 - (intOf v118).toNat)
            case atStart => exact ⟨0, Nat.zero_le _, rfl, rfl, hown6, hb6⟩
            case round =>
              obtain ⟨k3, hk3, rfl, rfl, hseen, hb7⟩ := hrel
              clear hown6 hgr6 hb6
              have hHs := HE5.low
              by_cases hl3 : k3 < k2
              · have hE := HE5.keep (hb7.mono hb5.size)
                have hfew := HE5.few
                have c0 := hE.cell k3 hl3 0 (by omega)
                have c1 := hE.cell k3 hl3 1 (by omega)
                have c2 := hE.cell k3 hl3 2 (by omega)
                have c3 := hE.cell k3 hl3 3 (by omega)
                have c4 := hE.cell k3 hl3 4 (by omega)
                have c5 := hE.cell k3 hl3 5 (by omega)
                have c6 := hE.cell k3 hl3 6 (by omega)
                have c7 := hE.cell k3 hl3 7 (by omega)
                have c8 := hE.cell k3 hl3 8 (by omega)
                have hrl : z k3 % nl < nl := Nat.mod_lt _ hnl
                have Hb : Hid (bools (seenN (fun j => z j % nl) (k3 + 1)) nl = (bools (seenN (fun j => z j % nl) k3) nl).set (z k3 % nl) (.bool true)) := by rw [bools_set]; exact rfl
                have HW : Hid (wantN (fun j => z j % nl) (k3 + 1) = max (wantN (fun j => z j % nl) k3) (z k3 % nl + 1)) := rfl
                have hwl : wantN (fun j => z j % nl) k3 ≤ nl := wantN_le _ _ _ (fun j _ => Nat.mod_lt _ hnl)
                generalize z k3 % nl = h at c0 c1 c2 c3 c4 c5 c6 c7 c8 hrl Hb HW
                simp [evCells] at c0 c1 c2 c3 c4 c5 c6 c7 c8
                have hl3' : (k3 : Int) < (k2 : Int) := by omega
                have dk := (hseen.cellAt h (by omega)).trans (bools_get _ nl h hrl)
                have fk := hseen.frozenAt h
                have hrl' : (h : Int) < (nl : Int) := by omega
                have hw64 : IntKind.i64.wrap (h : Int) = (h : Int) := by rw [IntKind.wrap_i64]; omega
                have hlt5 : w5.heap.size < wr.heap.size := (hseen.lt _ rfl).2
                have dk' := cell_al dk (.cells #[.int .i64 0, .int .u64 0, .int .i64 0, .int .i64 0, .int .i32 h, .int .i32 0, .int .i32 0, .int .u8 0, .bool false] 56)
                have fk' : (wr.alloc (.cells #[.int .i64 0, .int .u64 0, .int .i64 0, .int .i64 0, .int .i32 h, .int .i32 0, .int .i32 0, .int .u8 0, .bool false] 56)).frozen? ⟨w5.heap.size, h, none⟩ = false := (((Below.refl wr.heap.size wr).alloc (Nat.le_refl _) _).frozen (by exact hlt5)).trans fk
                have hne5 : ¬ wr.heap.size = w5.heap.size := by omega
                have hne5' : ¬ w5.heap.size = wr.heap.size := by omega
                have hown8 := (hseen.stored h (.bool true)).1
                rw [← Hb.out] at hown8
                have hbl8 : Below w5.heap.size w5 (wr.setCell ⟨w5.heap.size, h, none⟩ (.bool true)) := hb7.setCell (Nat.le_refl _) _
                have hmeas : k2 - (k3 + 1) < k2 - k3 := by omega
                clear hE S HE5 HN5 hb5 hev hns hbq Hb dk fk
                by_cases hgt : wantN (fun j => z j % nl) k3 < h + 1
                · have hW2 : Hid (wantN (fun j => z j % nl) (k3 + 1) = h + 1) := by rw [HW.out]; show max _ _ = _; omega
                  have hgt' : (wantN (fun j => z j % nl) k3 : Int) < (h : Int) + 1 := by omega
                  go_wp2_with fail
                  go_roundw
                  case rel => exact ⟨k3 + 1, by omega, by go_num, by rw [hW2.out]; go_num, hown8.kept (gb_alloc _ _) (.inr (by simp [Value.ownBlock])), hbl8.alloc hbl8.size _⟩
                  case measure => simp [intOf]; omega
                · have hW2 : Hid (wantN (fun j => z j % nl) (k3 + 1) = wantN (fun j => z j % nl) k3) := by rw [HW.out]; show max _ _ = _; omega
                  have hgt' : ¬ (wantN (fun j => z j % nl) k3 : Int) < (h : Int) + 1 := by omega
                  go_wp2_with fail
                  go_roundw
                  case rel => exact ⟨k3 + 1, by omega, by go_num, by rw [hW2.out], hown8.kept (gb_alloc _ _) (.inr (by simp [Value.ownBlock])), hbl8.alloc hbl8.size _⟩
                  case measure => simp [intOf]; omega
              · have hk3 : k3 = k2 := by omega
                subst hk3
                obtain ⟨want, Hwant⟩ : ∃ x : Nat, Hid (x = wantN (fun j => z j % nl) k3) := ⟨_, rfl⟩
                obtain ⟨seen, Hsn⟩ : ∃ x : Nat → Bool, Hid (x = seenN (fun j => z j % nl) k3) := ⟨_, rfl⟩
                have hwl : want ≤ nl := by rw [Hwant.out]; exact wantN_le _ _ _ (fun j _ => Nat.mod_lt _ hnl)
                rw [← Hwant.out, ← Hsn.out] at S
                rw [← Hsn.out] at hseen
                rw [← Hwant.out]
                obtain ⟨ha, hc, rfl⟩ := own_slice S.host
                have t1 : wr.cell? ⟨T, 1, none⟩ = some (.slice ha want hc) := keepc hb7 ((blk_cell S.own.blk 1).trans rfl)
                go_wp2_with fail
                obtain ⟨wz, hwz⟩ : ∃ y, y = wr := ⟨wr, rfl⟩
                subst hwz
                clear hns hev HE5 hHs
                go_loopw [17, 18] (fun v17 v18 wq => ∃ i : Nat, i ≤ want ∧ v18 = .int .i64 i ∧ v17 = .bool (anyN seen (nmOf src) i) ∧ Below wz.heap.size wz wq) (fun v17 v18 _ => want - (intOf v18).toNat)
                case atStart => exact ⟨0, Nat.zero_le _, rfl, rfl, Below.refl _ _⟩
                case round =>
                  obtain ⟨i, hi, rfl, rfl, hbz⟩ := hrel
                  have t1r := keepc hbz t1
                  clear t1
                  by_cases hl4 : i < want
                  · obtain ⟨hb', hcap, he, hcle⟩ := own_formN S.host (by omega)
                    simp only [Value.slice.injEq, true_and] at he
                    obtain ⟨rfl, rfl⟩ := he
                    have ch := keepc hbz (keepc hb7 ((S.host.cellAt i (by omega)).trans (bools_get seen want i hl4)))
                    have cs := keepc hbz ((hseen.cellAt i (by omega)).trans (bools_get seen nl i (by omega)))
                    have cn := keepc hbz (keepc hb7 (HN5.name i (by omega)))
                    have hsz := HN5.short i (by omega)
                    have hl4' : (i : Int) < (want : Int) := by omega
                    have hl5' : (i : Int) < (nl : Int) := by omega
                    have hqb := lqN_bounds (nmOf src i) (nmOf src i).size
                    have hqb1 : -1 ≤ lq (nmOf src i) := hqb.1
                    have hqb2 : lq (nmOf src i) + 1 ≤ ((nmOf src i).size : Int) := by have := hqb.2; show lqN _ _ + 1 ≤ _; omega
                    clear hqb
                    have hRep := (S.own.rep.keep hb7).keep hbz
                    have hfine := S.fine
                    have hHas := S.has i
                    obtain ⟨_, _, _, hNcap⟩ := S.own.rowBlk
                    have HA1 : Hid (anyN seen (nmOf src) (i + 1) = (anyN seen (nmOf src) i || (seen i && decide (0 ≤ lq (nmOf src i))))) := rfl
                    clear S HN5 hseen
                    cases hsi : seen i with
                    | false =>
                      rw [hsi] at ch cs
                      have HA2 : Hid (anyN seen (nmOf src) (i + 1) = anyN seen (nmOf src) i) := by show _ = _; rw [HA1.out, hsi]; simp
                      clear hsi hHas HA1
                      go_wp2_with fail
                      go_quiet (fail)
                      go_wp2_with fail
                      go_roundw
                      case rel => exact ⟨i + 1, by omega, by go_num, by rw [HA2.out], below_drewN hbz _⟩
                      case measure => simp [intOf]; omega
                    | true =>
                      rw [hsi] at ch cs
                      by_cases hq : 0 ≤ lq (nmOf src i)
                      · have HA2 : Hid (anyN seen (nmOf src) (i + 1) = true) := by show _ = _; rw [HA1.out, hsi]; simp [hq]
                        have HH : Hid (Has t (List.take (lq (nmOf src i) + 1).toNat (bl (nmOf src i)))) := hHas hsi hq
                        have hq1 : 0 ≤ lq (nmOf src i) + 1 := by omega
                        have hwq : IntKind.i64.wrap (lq (nmOf src i) + 1) = lq (nmOf src i) + 1 := by rw [IntKind.wrap_i64]; omega
                        clear hsi hHas HA1
                        go_wp2_with fail
                        go_quiet (fail)
                        go_wp2_with fail
                        refine (lib_walk (nmOf src i) _ (by omega)).mono ?_
                        rintro e w8 ⟨rfl, rfl⟩
                        go_wp2_with fail
                        generalize hwq8 : wr.drewN _ = w9
                        have hb9 : Below wz.heap.size wz w9 := by rw [← hwq8]; exact below_drewN hbz _
                        have hRep9 : Rep w9 T 2 g cap M str es clock t := by rw [← hwq8]; exact hRep.keep (below_drewN (Below.refl _ _) _)
                        clear hwq8 hRep
                        refine (walk_walk T 2 g cap M str es clock t ((nmOf src i).extract 0 (lq (nmOf src i) + 1).toNat) _ hRep9 hfine (by rw [ByteArray.size_extract]; omega) hNcap).mono ?_
                        rintro e w10 ⟨p, nd, aa, n, rfl, hnle, hrun, hstop, hb10⟩
                        have hnn : n = ((nmOf src i).extract 0 (lq (nmOf src i) + 1).toNat).size := by
                          by_cases hlt9 : n < ((nmOf src i).extract 0 (lq (nmOf src i) + 1).toNat).size
                          · obtain ⟨c, hc1, hc2⟩ := hstop hlt9
                            have h9 := HH.out
                            rw [← bl_to, ← bl_join hc1] at h9
                            exact (h9.not_stop hrun hc2).elim
                          · omega
                        have hb11 : Below wz.heap.size wz w10 := hb9.trans (hb10.mono hb9.size)
                        clear hstop hrun hnle hb10 hRep9 hb9
                        generalize (nmOf src i).extract 0 (lq (nmOf src i) + 1).toNat = P at hnn ⊢
                        subst hnn
                        go_wp2_with fail
                        go_roundw
                        case rel => exact ⟨i + 1, by omega, by go_num, by rw [HA2.out], hb11.alloc hb11.size _⟩
                        case measure => simp [intOf]; omega
                      · have HA2 : Hid (anyN seen (nmOf src) (i + 1) = anyN seen (nmOf src) i) := by show _ = _; rw [HA1.out, hsi]; simp [hq]
                        have hq' : lq (nmOf src i) < 0 := by omega
                        clear hsi hHas HA1
                        go_wp2_with fail
                        go_quiet (fail)
                        go_wp2_with fail
                        refine (lib_walk (nmOf src i) _ (by omega)).mono ?_
                        rintro e w8 ⟨rfl, rfl⟩
                        go_wp2_with fail
                        go_roundw
                        case rel => exact ⟨i + 1, by omega, by go_num, by rw [HA2.out], below_drewN hbz _⟩
                        case measure => simp [intOf]; omega
                  · have hl4' : ¬ (i : Int) < (want : Int) := by omega
                    have hiw : i = want := by omega
                    subst hiw
                    have c2 := keepc hbz (keepc hb7 S.own.rep.c0)
                    have c3 := keepc hbz (keepc hb7 S.own.rep.c1)
                    have hM9 := keepb hbz (keepb hb7 S.own.map)
                    have hend : Below w.heap.size w wr := by
                      have h1 : Below w.heap.size w w5 := (hbq.alloc hbq.size _).trans (hb5.mono (by have := hbq.size; simp; omega))
                      have h2 := h1.trans (hb7.mono h1.size)
                      exact h2.trans (hbz.mono h2.size)
                    cases han : anyN seen (nmOf src) i with
                    | true =>
                      go_wp2_with fail
                      go_ret
                      exact ⟨rfl, hend⟩
                    | false =>
                      have hno : ∀ j, seen j = true → lq (nmOf src j) < 0 := by
                        intro j hj
                        by_cases hji : j < i
                        · exact anyN_false _ _ i han j hji hj
                        · have := S.out j (by omega)
                          rw [hj] at this
                          cases this
                      obtain ⟨hN1, hes⟩ := S.none_ hno
                      rw [hN1] at c2
                      rw [hes] at hM9
                      clear hno S hN1 hes
                      have hlen := len71 hM9
                      clear hM9
                      go_wp2_with fail
                      go_ret
                      exact ⟨rfl, hend⟩
      · -- no name
        rename_i hpos
        have hnl : nl = 0 := by omega
        subst hnl
        have hNSlt : Hid (w.heap.size < wa.heap.size) := (hNS.lt w.heap.size rfl).2
        have hns := hNS.kept hgr2 (.inr (by simp [Value.ownBlock]))
        have hbq : Below w.heap.size w w2 := hb.grown hgr2 hb.size (fun k hk => by cases hk)
        have hev : w2.ownsRow w.heap.size 56 9 (.slice (some ⟨wa.heap.size, 0, none⟩) 0 tl) 0 (evL (fun _ => 0) 0) := hown2
        have HE := evs_of (ns := w.heap.size) (nl := 0) hev (by omega) (by omega) 68
        have HNm := nms_of (ev := wa.heap.size) (nE := 0) (cap := tl) hns hn (nm_short hA) 68
        clear hown2 hgr2 hNS
        go_wp2_with fail
        refine (newSplitter_walk _ w2.heap.size wa.heap.size 0 w.heap.size 0 (fun _ => 0) (nmOf src) HE HNm (fun j hj => by omega)).mono ?_
        rintro e w5 ⟨T, M, rfl, hT, hM, hb5, hv, g, cap, str, es, clock, t, S⟩
        have t0 : w5.cell? ⟨T, 0, none⟩ = some (.pointer (some ⟨w2.heap.size, 0, none⟩)) := (blk_cell S.own.blk 0).trans rfl
        have t3 : w5.cell? ⟨T, 3, none⟩ = some (.map (some M)) := (blk_cell S.own.blk 3).trans rfl
        have t4 : w5.cell? ⟨T, 4, none⟩ = some (.slice none 0 0) := (blk_cell S.own.blk 4).trans rfl
        have t5 : w5.cell? ⟨T, 5, none⟩ = some (.slice none 0 0) := (blk_cell S.own.blk 5).trans rfl
        go_wp2_with (at_make; refine wpList_make_full _ rfl _ _ 70 rfl w5.heap.size 4 i4 (.bool false) 1 Yba.underlying70 hi4 hz40 hz41 .i64 .i64 _ _ 0 rfl rfl rfl rfl (by rw [hz42]; omega) (by unfold maxLen; omega) (Nat.le_refl _) ?_; intro w6 hown6 hgr6)
        have hb6 : Below w5.heap.size w5 w6 := (Below.refl _ _).grown hgr6 (Nat.le_refl _) (fun k hk => by cases hk)
        clear HE HNm t0 t3 t4 t5 hown6 hgr6 hev hns
        obtain ⟨hN1, hes⟩ := S.none_ (fun j hj => by simp [seenN] at hj)
        go_loopw [14, 118] (fun v14 v118 wq => v118 = .int .i64 0 ∧ v14 = .int .i64 0 ∧ Below w5.heap.size w5 wq) (fun v14 v118 _ => 0)
        case atStart => exact ⟨rfl, rfl, hb6⟩
        case round =>
          obtain ⟨rfl, rfl, hb7⟩ := hrel
          clear hb6
          obtain ⟨ha, hc, hhv⟩ := own_slice S.host
          have hw0 : wantN (fun _ => 0) 0 = 0 := rfl
          rw [hw0] at hhv
          have t1 : wr.cell? ⟨T, 1, none⟩ = some (.slice ha 0 hc) := by rw [← hhv]; exact keepc hb7 ((blk_cell S.own.blk 1).trans rfl)
          have c2 := keepc hb7 S.own.rep.c0
          have c3 := keepc hb7 S.own.rep.c1
          have hM9 := keepb hb7 S.own.map
          have hend : Below w.heap.size w wr := by
            have h1 : Below w.heap.size w w5 := (hbq.alloc hbq.size _).trans (hb5.mono (by have := hbq.size; simp; omega))
            exact h1.trans (hb7.mono h1.size)
          rw [hN1] at c2
          rw [hes] at hM9
          have hlen := len71 hM9
          clear hhv S hN1 hes hM9 hw0
          go_wp2_with fail
          obtain ⟨wz, hwz⟩ : ∃ y, y = wr := ⟨wr, rfl⟩
          subst hwz
          go_loopw [17, 18] (fun v17 v18 wq => v18 = .int .i64 0 ∧ v17 = .bool false ∧ wq = wz) (fun v17 v18 _ => 0)
          case atStart => exact ⟨rfl, rfl, rfl⟩
          case round =>
            obtain ⟨rfl, rfl, rfl⟩ := hrel
            go_wp2_with fail
            go_ret
            exact ⟨rfl, hend⟩
end Go.Proofs.Ybulkalji
