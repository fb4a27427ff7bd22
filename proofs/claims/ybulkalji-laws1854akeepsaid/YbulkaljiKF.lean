import Derived.Test.YbulkaljiKD
namespace Go.Proofs.Ybulkalji
open Go.RowKit Go.Maps
set_option linter.unusedVariables false
set_option linter.unusedSimpArgs false

/-! ### what the second half of the law reads -/
theorem len_map {P : Program} {w : World} {t k e : TypeId} {b : Nat} {es : Array MapEntry} {clock : Nat} (ht : P.underlying t = some (.map k e)) (hb : w.heap[b]? = some (.map es clock)) (ty : TypeId) :
    (Builtin.len_ #[t] ty #[.map (some b)]).run P w = .ok (.int .i64 es.size) w := by
  simp [Builtin.len_, run_underlying ht, MapKept.run_getObj_map hb, goInt, Result.andThen]

theorem Dk_tidy (g : Nat → Nat) : ∀ n, Tidy (Dk g n) ∧ Maps.size (Dk g n) = n
  | 0 => ⟨tidy_empty, rfl⟩
  | n + 1 => by
    obtain ⟨h1, h2⟩ := Dk_tidy g n
    have hs := size_put (k := kL n) h1 (.lit (.int .u64 (g n)))
    rw [Dk_hasNo g n n (by omega), h2] at hs
    exact ⟨h1.put (kL_key n) _, hs⟩

theorem look_rec {w : World} {M K H : Nat} (h : w.ownsMap Yba.prog 31 Rp M K (Dk (fun k => H + 7 * k + 2) K)) (q : Nat) (hq : q < K) (hK : K ≤ 256) :
    (Instr.lookup 24 (.map (some M)) (.int .u64 ((q : Int) + 1)) false).run Yba.prog w = .ok (.pointer (some ⟨H + 7 * q + 2, 0, none⟩)) w := by
  have hwf : (Lit.int .u64 ((q : Int) + 1)).wf = true := WalkArith.wf_u64 (by omega)
  obtain ⟨v, ps, hrun, hR⟩ := h.lookup law31 Yba.underlying24 (z := .pointer none) (by kernel_rfl) (zd := .nil) (zp := []) rfl (keyOf_int_mk Yba.underlying31 hwf)
  have hat := Dk_at (fun k => H + 7 * k + 2) q .nil K hq
  rw [kL] at hat
  rw [hat] at hR
  rw [hrun]
  match v, hR with
  | .pointer none, hR => simp [Rp] at hR
  | .pointer (some ⟨b, 0, none⟩), hR =>
    simp [Rp] at hR
    have : b = H + 7 * q + 2 := by omega
    rw [this]
  | .pointer (some ⟨b, o + 1, _⟩), hR => simp [Rp] at hR
  | .pointer (some ⟨b, 0, some _⟩), hR => simp [Rp] at hR
  | .bool _, hR | .int _ _, hR | .float _ _, hR | .complex _ _ _, hR | .string _, hR | .slice _ _ _, hR | .map _, hR | .chan _, hR | .func _ _ _, hR | .nilFunc, hR | .nilIface, hR | .iface _ _, hR | .agg _, hR | .tuple _, hR => simp [Rp] at hR

theorem rowL_get (k n j : Nat) (hj : j < n) : (rowL k n)[j]? = some (.int .i64 ((k : Int) * 10 + j)) := by simp [rowL, hj]

/-- What the law finds in channel s of recording q behind the call of keep. -/
theorem chan_at {w : World} {N H q : Nat} {z : Int} {n f : Nat} {m : Int} (h : ChanSt w N H q z n f m true) (hr : Recd w H q z n) (s : Nat) (hs : s < 4) :
    ∃ g cap, (Instr.lookup 38 (.map (some (H + 7 * q))) (.agg #[.int .i64 s, .int .i64 9]) true).run Yba.prog w = .ok (.tuple #[.slice (some ⟨g, 0, none⟩) (if s = f ∧ bitB z s = true then n + 1 else n) cap, .bool true]) w
      ∧ (∀ j, j < n → w.cell? ⟨g, j, none⟩ = some (.int .i64 ((q : Int) * 10 + j))) ∧ (s = f ∧ bitB z s = true → w.cell? ⟨g, n, none⟩ = some (.int .i64 m)) := by
  have plain : ∀ sl : Nat → Value, w.heap[H + 7 * q]? = some (.map (chL sl 0 4).toArray 4) → sl s = slV H q n s → ¬ (s = f ∧ bitB z s = true) →
      ∃ g cap, (Instr.lookup 38 (.map (some (H + 7 * q))) (.agg #[.int .i64 s, .int .i64 9]) true).run Yba.prog w = .ok (.tuple #[.slice (some ⟨g, 0, none⟩) (if s = f ∧ bitB z s = true then n + 1 else n) cap, .bool true]) w
      ∧ (∀ j, j < n → w.cell? ⟨g, j, none⟩ = some (.int .i64 ((q : Int) * 10 + j))) ∧ (s = f ∧ bitB z s = true → w.cell? ⟨g, n, none⟩ = some (.int .i64 m)) := by
    intro sl hb he hno
    refine ⟨H + 7 * q + 3 + s, n, ?_, fun j hj => ?_, fun h => absurd h hno⟩
    · refine (look_ch sl s 4 4 true hb hs).trans ?_
      rw [he, if_neg hno]
      rfl
    · rw [cell_of_block (hr.row s hs) j]
      simpa using rowL_get q n j hj
  unfold ChanSt at h
  by_cases hh : hit z f = true
  · rw [if_pos ⟨rfl, hh⟩] at h
    obtain ⟨v, hb, hown⟩ := h
    by_cases hsf : s = f
    · subst hsf
      have hbz : bitB z s = true := by simp [hit] at hh; exact hh.2
      obtain ⟨g, cap, rfl⟩ := own_form hown
      refine ⟨g, cap, ?_, fun j hj => ?_, fun _ => ?_⟩
      · refine (look_ch _ s 4 4 true hb hs).trans ?_
        simp [hbz]
      · rw [hown.cellAt j (by omega), List.getElem?_append_left (by rw [rowL_len]; exact hj)]
        exact rowL_get q n j hj
      · rw [hown.cellAt n (by omega), List.getElem?_append_right (by rw [rowL_len]; omega), rowL_len]
        simp
    · exact plain _ hb (by simp [hsf]) (fun h => hsf h.1)
  · rw [if_neg (fun h => hh h.2)] at h
    refine plain _ h rfl (fun h' => hh ?_)
    obtain ⟨rfl, hb⟩ := h'
    simp [hit, hs, hb]

end Go.Proofs.Ybulkalji
