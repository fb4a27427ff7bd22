import Derived.Test.YbulkaljiFmtFR
namespace Go.Proofs.YbulkaljiFmt
open Go.RowKit Go.Extern.Stop Go.Stop Go.Extern
set_option linter.unusedVariables false
set_option linter.unusedSimpArgs false

/-- An argument of bytes. -/
structure Src (w : World) (a : Option Addr) (len cap : Nat) (z : Nat → Nat) : Prop where
  row : RowAt w a len cap z
  lt : ∀ j, z j < 256
  form : 0 < len → ∃ b off, a = some ⟨b, off, none⟩ ∧ Bytes w b off len z

theorem RowAt.keep {w w' : World} {a : Option Addr} {len cap : Nat} {z : Nat → Nat} (h : RowAt w a len cap z) (hb : Below w.heap.size w w') : RowAt w' a len cap z := by
  rcases h with h | ⟨x, hx, hc⟩
  · exact .inl h
  · exact .inr ⟨x, hx, fun j hj => (hb.cell (World.block_lt_of_cell? w _ (hc j hj))).trans (hc j hj)⟩
theorem Src.keep {w w' : World} {a : Option Addr} {len cap : Nat} {z : Nat → Nat} (h : Src w a len cap z) (hb : Below w.heap.size w w') : Src w' a len cap z :=
  ⟨h.row.keep hb, h.lt, fun h0 => by obtain ⟨b, off, e, hB⟩ := h.form h0; exact ⟨b, off, e, hB.keep hb⟩⟩

theorem own_form {w : World} {base : Nat} {e : TypeId} {v : Value} {n : Nat} {xs : List Value} (h : w.ownsRow base e 1 v n xs) (hn : 0 < n) : ∃ g cap, v = .slice (some ⟨g, 0, none⟩) n cap := by
  rcases h.2 with ⟨_, h2⟩ | ⟨g, cap, cur, hv, _⟩
  · omega
  · exact ⟨g, cap, hv⟩

/-- zzs1854cput, whole. -/
theorem put (n : Nat) (w : World) (hn : n ≤ 4096) :
    Calls Ybaf.prog 5 #[.slice none 0 0, .int .u64 n] w fun e w' => ∃ g cap, e = .returned (.slice (some ⟨g, 0, none⟩) (vlen n) cap) ∧ w'.ownsRow w.heap.size 5 1 (.slice (some ⟨g, 0, none⟩) (vlen n) cap) (vlen n) (cellsOf (vbyte n) (vlen n)) ∧ Below w.heap.size w w' := by
  by_cases h : n < 128
  · refine (put_small n w h).mono ?_
    rintro e w' ⟨v, rfl, ho, hb⟩
    obtain ⟨g, cap, rfl⟩ := own_form ho (by omega)
    have e : vlen n = 1 := by simp [vlen, h]
    rw [e]
    exact ⟨g, cap, rfl, ho, hb⟩
  · refine (put_two n w (by omega) (by omega)).mono ?_
    rintro e w' ⟨v, rfl, ho, hb⟩
    obtain ⟨g, cap, rfl⟩ := own_form ho (by omega)
    have e : vlen n = 2 := by simp [vlen, h]
    rw [e]
    exact ⟨g, cap, rfl, ho, hb⟩

/-- The bytes of the whole row. -/
def zrow (nl : Nat) (zn zt : Nat → Nat) (j : Nat) : Nat := if j < vlen nl then vbyte nl j else if j < vlen nl + nl then zn (j - vlen nl) else zt (j - vlen nl - nl)

theorem vbyte_lt {n : Nat} (hn : n ≤ 4096) (j : Nat) : vbyte n j < 256 := by unfold vbyte; split <;> (try split) <;> omega
theorem vlen_pos (n : Nat) : 0 < vlen n := by unfold vlen; split <;> omega
theorem vlen_le (n : Nat) : vlen n ≤ 2 := by unfold vlen; split <;> omega
theorem ends_row {nl : Nat} (hn : nl ≤ 4096) (zn zt : Nat → Nat) (q : Nat) : Ends (zrow nl zn zt) (vlen nl + nl + q) (vlen nl - 1) ∧ val (zrow nl zn zt) (vlen nl - 1) = nl := by
  by_cases h : nl < 128
  · have e : vlen nl = 1 := by simp [vlen, h]
    have z0 : zrow nl zn zt 0 = nl := by simp [zrow, e, vbyte, h]
    rw [e]
    refine ⟨⟨by omega, by simp [z0, h], fun j hj => by omega, by omega, fun h => by omega, fun h => by omega⟩, by simp [val, acc, z0]⟩
  · have e : vlen nl = 2 := by simp [vlen, h]
    have z0 : zrow nl zn zt 0 = nl % 128 + 128 := by simp [zrow, e, vbyte, h]
    have z1 : zrow nl zn zt 1 = nl / 128 := by simp [zrow, e, vbyte, h]
    rw [e]
    refine ⟨⟨by omega, by simp [z1]; omega, fun j hj => ?_, by omega, fun h => by omega, fun _ => by simp [z1]; omega⟩, ?_⟩
    · obtain rfl : j = 0 := by omega
      omega
    · simp [val, acc, z0, z1]
      omega

theorem row_get {nl tl : Nat} {zn zt : Nat → Nat} (j : Nat) (hj : j < vlen nl + nl + tl) : (cellsOf (vbyte nl) (vlen nl) ++ cellsOf zn nl ++ cellsOf zt tl)[j]? = some (.int .u8 (zrow nl zn zt j)) := by
  unfold zrow
  by_cases h1 : j < vlen nl
  · rw [List.append_assoc, List.getElem?_append_left (by rw [cellsOf_len]; exact h1), cellsOf_get _ _ _ h1, if_pos h1]
  · rw [if_neg h1]
    by_cases h2 : j < vlen nl + nl
    · rw [if_pos h2, List.getElem?_append_left (by simp [cellsOf_len]; omega), List.getElem?_append_right (by rw [cellsOf_len]; omega), cellsOf_len, cellsOf_get _ _ _ (by omega)]
    · rw [if_neg h2, List.getElem?_append_right (by simp [cellsOf_len]; omega)]
      simp only [List.length_append, cellsOf_len]
      rw [show j - (vlen nl + nl) = j - vlen nl - nl from by omega, cellsOf_get _ _ _ (by omega)]

/-- The two appends. -/
theorem joined {w w1 : World} {g c nl tl : Nat} {a a' : Option Addr} {cn ct : Nat} {zn zt : Nat → Nat} (hn : nl ≤ 4096) (ht : tl ≤ 4096) (hN : Src w a nl cn zn) (hT : Src w a' tl ct zt) (hb : Below w.heap.size w w1)
    (ho : w1.ownsRow w.heap.size 5 1 (.slice (some ⟨g, 0, none⟩) (vlen nl) c) (vlen nl) (cellsOf (vbyte nl) (vlen nl))) :
    ∃ g2 c2 w2 g3 c3 w3, (Builtin.append_ #[22, 22] 22 #[.slice (some ⟨g, 0, none⟩) (vlen nl) c, .slice a nl cn]).run Ybaf.prog w1 = .ok (.slice (some ⟨g2, 0, none⟩) (vlen nl + nl) c2) w2 ∧
      (Builtin.append_ #[22, 22] 22 #[.slice (some ⟨g2, 0, none⟩) (vlen nl + nl) c2, .slice a' tl ct]).run Ybaf.prog w2 = .ok (.slice (some ⟨g3, 0, none⟩) (vlen nl + nl + tl) c3) w3 ∧
      Below w.heap.size w w3 ∧ Bytes w3 g3 0 (vlen nl + nl + tl) (zrow nl zn zt) ∧ vlen nl + nl + tl ≤ c3 := by
  have hp := vlen_pos nl
  have hq := vlen_le nl
  obtain ⟨v2, w2, r2, o2, gr2⟩ := app_row ho (hN.row.keep hb) 22 hb.size (by omega)
  have hb2 := hb.grown gr2 hb.size (fun k hk => (ho.lt k hk).1)
  obtain ⟨g2, c2, rfl⟩ := own_form o2 (by omega)
  obtain ⟨v3, w3, r3, o3, gr3⟩ := app_row o2 (hT.row.keep hb2) 22 hb2.size (by omega)
  have hb3 := hb2.grown gr3 hb2.size (fun k hk => (o2.lt k hk).1)
  obtain ⟨g3, c3, rfl⟩ := own_form o3 (by omega)
  refine ⟨g2, c2, w2, g3, c3, w3, r2, r3, hb3, ⟨fun j hj => ?_, fun j => ?_⟩, ?_⟩
  · rw [Nat.zero_add, o3.cellAt j (by omega), row_get j hj]
  · unfold zrow
    split
    · exact vbyte_lt hn j
    · split
      · exact hN.lt _
      · exact hT.lt _
  · rcases o3.2 with ⟨h, _⟩ | ⟨g', cap', cur, hv, _, _, hle, _⟩
    · cases h
    · simp only [Value.slice.injEq] at hv
      omega

/-- zzs1854ceq of a window and the argument that it holds. -/
theorem ceq_src (b o c : Nat) {a : Option Addr} {len cap : Nat} {z : Nat → Nat} {w : World} (hm : len ≤ 4096) (hs : Src w a len cap z) (hB : 0 < len → Bytes w b o len z) :
    Calls Ybaf.prog 7 #[.slice (some ⟨b, o, none⟩) len c, .slice a len cap] w fun e w' => e = .returned (.bool true) ∧ Below w.heap.size w w' := by
  rcases Nat.eq_zero_or_pos len with rfl | h0
  · exact ceq_empty _ _ _ _ _
  · obtain ⟨b', o', rfl, hB'⟩ := hs.form h0
    exact ceq_same b o c b' o' cap len z w (by unfold maxLen; omega) (hB h0) hB'

attribute [local go_sem] eq22 neq30
set_option maxRecDepth 100000 in
set_option maxHeartbeats 400000 in
theorem rt_big (a a' : Option Addr) (nl cn tl ct : Nat) (w : World) (h : 4096 < nl ∨ 4096 < tl) (hm : nl ≤ maxLen) (hm' : tl ≤ maxLen) :
    Calls Ybaf.prog 3 #[.slice a nl cn, .slice a' tl ct] w fun e w' => e = .returned (.bool true) ∧ Below w.heap.size w w' := by
  unfold maxLen at hm hm'
  by_cases h1 : 4096 < nl
  · clear h
    go_enter Ybaf.func3, Ybaf.ntmps3
    go_wp2
    go_ret
    exact ⟨rfl, Below.refl _ _⟩
  · have h2 : 4096 < tl := by omega
    clear h
    go_enter Ybaf.func3, Ybaf.ntmps3
    go_wp2
    go_ret
    exact ⟨rfl, Below.refl _ _⟩

set_option maxRecDepth 100000 in
set_option maxHeartbeats 800000 in
theorem rt_ok (a a' : Option Addr) (nl cn tl ct : Nat) (zn zt : Nat → Nat) (w : World) (hn : nl ≤ 4096) (ht : tl ≤ 4096) (hN : Src w a nl cn zn) (hT : Src w a' tl ct zt) :
    Calls Ybaf.prog 3 #[.slice a nl cn, .slice a' tl ct] w fun e w' => e = .returned (.bool true) ∧ Below w.heap.size w w' := by
  have HP : Hid (Calls Ybaf.prog 5 #[.slice none 0 0, .int .u64 nl] w fun e w' => ∃ g cap, e = .returned (.slice (some ⟨g, 0, none⟩) (vlen nl) cap) ∧ w'.ownsRow w.heap.size 5 1 (.slice (some ⟨g, 0, none⟩) (vlen nl) cap) (vlen nl) (cellsOf (vbyte nl) (vlen nl)) ∧ Below w.heap.size w w') := put nl w hn
  have hk1 := vlen_pos nl
  have hk2 := vlen_le nl
  go_enter Ybaf.func3, Ybaf.ntmps3
  go_wp2_with fail
  refine (show Calls _ _ _ _ _ from HP.out).mono ?_
  rintro e w1 ⟨g, c, rfl, ho, hb⟩
  obtain ⟨g2, c2, w2, g3, c3, w3, r2, r3, hb3, hB, hc3⟩ := joined hn ht hN hT hb ho
  clear HP
  go_wp2_with (at_builtin; first | refine wpList_append_raw _ rfl _ _ 22 rfl _ _ _ _ rfl rfl r2 ?_ | refine wpList_append_raw _ rfl _ _ 22 rfl _ _ _ _ rfl rfl r3 ?_)
  obtain ⟨hE, hval⟩ := ends_row hn zn zt tl
  obtain ⟨o1, o2, c4, e1, e2, HW0⟩ := wn_sum g3 0 (vlen nl) nl tl c3 (vlen nl - 1) _ w3 (by omega) (by unfold maxLen; omega) hc3 hB hE hval
  have HW : Hid (Calls Ybaf.prog 6 #[.slice (some ⟨g3, 0, none⟩) (vlen nl + nl + tl) c3] w3 fun e w' => e = .returned (.tuple #[.slice (some ⟨g3, o1, none⟩) nl nl, .slice (some ⟨g3, o2, none⟩) tl c4, .nilIface]) ∧ Below w3.heap.size w3 w') := HW0
  clear HW0 hval hE r2 r3 ho
  refine (show Calls _ _ _ _ _ from HW.out).mono ?_
  rintro e w4 ⟨rfl, hb4⟩
  clear HW
  have hbb := hb3.trans (hb4.mono hb3.size)
  have hB4 := hB.keep hb4
  clear hB hb4 hb
  have hBn : 0 < nl → Bytes w4 g3 o1 nl zn := by
    intro h0
    have h := hB4.cut (vlen nl) nl (by omega)
    rw [e1 h0]
    refine ⟨fun j hj => ?_, hN.lt⟩
    rw [h.cell j hj]
    simp [zrow, show ¬ vlen nl + j < vlen nl from by omega, show vlen nl + j < vlen nl + nl from by omega]
  have hBt : 0 < tl → Bytes w4 g3 o2 tl zt := by
    intro h0
    have h := hB4.cut (vlen nl + nl) tl (by omega)
    rw [e2 h0]
    refine ⟨fun j hj => ?_, hT.lt⟩
    rw [h.cell j hj]
    simp [zrow, show ¬ vlen nl + nl + j < vlen nl from by omega, show ¬ vlen nl + nl + j < vlen nl + nl from by omega, show vlen nl + nl + j - vlen nl - nl = j from by omega]
  go_wp2_with fail
  refine (ceq_src g3 o1 nl hn (hN.keep hbb) hBn).mono ?_
  rintro e w5 ⟨rfl, hb5⟩
  have hbt5 : 0 < tl → Bytes w5 g3 o2 tl zt := fun h => (hBt h).keep hb5
  have hbb5 := hbb.trans (hb5.mono hbb.size)
  clear hb5 hBn hBt hB4
  go_wp2_with fail
  refine (ceq_src g3 o2 c4 ht (hT.keep hbb5) hbt5).mono ?_
  rintro e w6 ⟨rfl, hb6⟩
  have hbb6 := hbb5.trans (hb6.mono hbb5.size)
  clear hb6 hbt5 hbb5 hN hT hbb hb3
  simp only [Nat.zero_add] at e1 e2
  generalize vlen nl = k at *
  go_wp2_with fail
  rcases Nat.eq_zero_or_pos nl with rfl | hn0
  · clear e1
    go_quiet (fail)
    go_wp2_with fail
    rcases Nat.eq_zero_or_pos tl with rfl | ht0
    · clear e2
      go_quiet (fail)
      go_wp2
      go_ret
      exact ⟨rfl, below_drewN (below_drewN hbb6 _) _⟩
    · obtain rfl := e2 ht0
      clear e2
      have ht0' : (0 : Int) < (tl : Int) := by omega
      go_quiet (fail)
      go_wp2
      go_ret
      exact ⟨rfl, below_drewN (below_drewN hbb6 _) _⟩
  · obtain rfl := e1 hn0
    clear e1
    have hn0' : (0 : Int) < (nl : Int) := by omega
    go_quiet (fail)
    go_wp2_with fail
    rcases Nat.eq_zero_or_pos tl with rfl | ht0
    · clear e2
      go_quiet (fail)
      go_wp2
      go_ret
      exact ⟨rfl, below_drewN (below_drewN hbb6 _) _⟩
    · obtain rfl := e2 ht0
      clear e2
      have ht0' : (0 : Int) < (tl : Int) := by omega
      go_quiet (fail)
      go_wp2
      go_ret
      exact ⟨rfl, below_drewN (below_drewN hbb6 _) _⟩

end Go.Proofs.YbulkaljiFmt
