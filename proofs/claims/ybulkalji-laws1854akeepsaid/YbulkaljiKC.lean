import Derived.Test.YbulkaljiKB
import Derived.Test.YbulkaljiKA
namespace Go.Proofs.Ybulkalji
open Go.RowKit Go.Maps
set_option linter.unusedVariables false
set_option linter.unusedSimpArgs false

/-! ### the set of waiting senders -/
/-- Bit s of the byte z. -/
def bitB (z : Int) (s : Nat) : Bool := bits BinOp.and IntKind.u8 (z / 2 ^ s) 1 == 1
/-- What the law lays at sender s: true, false or nothing. -/
def wVal (z : Int) (s : Nat) : Option Bool := if bitB z s then some true else if bitB z (s + 4) then some false else none
/-- The entries that the law lays, of the senders below s. -/
def wEs (z : Int) : Nat → List MapEntry
  | 0 => []
  | s + 1 => match wVal z s with
    | some v => wEs z s ++ [{ key := .int .i64 s, val := .bool v, born := (wEs z s).length }]
    | none => wEs z s
def wCnt (z : Int) : Nat → Nat
  | 0 => 0
  | s + 1 => if (wVal z s).isSome then wCnt z s + 1 else wCnt z s

theorem wEs_len (z : Int) : ∀ s, (wEs z s).length = wCnt z s
  | 0 => rfl
  | s + 1 => by
    have := wEs_len z s
    simp only [wEs, wCnt]
    cases wVal z s <;> simp [this]

theorem wCnt_le (z : Int) : ∀ s, wCnt z s ≤ s
  | 0 => Nat.le_refl _
  | s + 1 => by
    have := wCnt_le z s
    simp only [wCnt]
    split <;> omega

theorem wEs_keys (z : Int) : ∀ s, IntKeys .i64 (wEs z s)
  | 0 => by intro e he; simp [wEs] at he
  | s + 1 => by
    have ih := wEs_keys z s
    intro e he
    simp only [wEs] at he
    cases h : wVal z s with
    | none => rw [h] at he; exact ih e he
    | some v =>
      rw [h] at he
      rcases List.mem_append.1 he with he | he
      · exact ih e he
      · simp at he; subst he; exact ⟨_, rfl⟩

theorem findI_append (x : Int) : ∀ (l1 l2 : List MapEntry) (i : Nat), IntKeys .i64 l1 → findI x (l1 ++ l2) i = match findI x l1 i with | some r => some r | none => findI x l2 (i + l1.length)
  | [], l2, i, _ => by simp [findI]
  | e :: l1, l2, i, h => by
    obtain ⟨y, hy⟩ := h e (by simp)
    have ih := findI_append x l1 l2 (i + 1) (fun e' he' => h e' (by simp [he']))
    simp only [List.cons_append, findI, hy]
    by_cases hxy : x = y
    · simp [hxy]
    · simp only [hxy, if_false, ih, List.length_cons]
      rw [show i + 1 + l1.length = i + (l1.length + 1) from by omega]

/-- The look-up of sender x among those below s. -/
theorem wEs_find (z : Int) (x : Nat) : ∀ s, (findI x (wEs z s) 0).map (·.2) = if x < s then (wVal z x).map Value.bool else none
  | 0 => by simp [wEs, findI]
  | s + 1 => by
    have ih := wEs_find z x s
    simp only [wEs]
    cases h : wVal z s with
    | none =>
      simp only [ih]
      by_cases hx : x < s
      · rw [if_pos hx, if_pos (by omega)]
      · rw [if_neg hx]
        by_cases hxs : x = s
        · subst hxs; rw [if_pos (by omega), h]; rfl
        · rw [if_neg (by omega)]
    | some v =>
      simp only []
      rw [findI_append _ _ _ _ (wEs_keys z s)]
      by_cases hx : x < s
      · rw [if_pos hx] at ih
        rw [if_pos (by omega), ← ih]
        cases hf : findI x (wEs z s) 0 with
        | some r => rfl
        | none =>
          rw [hf] at ih
          simp only [findI]
          rw [if_neg (by omega)]
      · rw [if_neg hx] at ih
        have hn : findI x (wEs z s) 0 = none := by simpa using ih
        rw [hn]
        simp only [findI]
        by_cases hxs : x = s
        · subst hxs; rw [if_pos rfl, if_pos (by omega), h]; rfl
        · rw [if_neg (by omega), if_neg (by omega)]; rfl

theorem look_wait {w : World} {b : Nat} (z : Int) (x s : Nat) (c : Nat) (ok : Bool) (hb : w.heap[b]? = some (.map (wEs z s).toArray c)) (hxs : x < s) :
    (Instr.lookup 41 (.map (some b)) (.int .i64 x) ok).run Yba.prog w = .ok (if ok then .tuple #[.bool (wVal z x == some true), .bool (wVal z x).isSome] else .bool (wVal z x == some true)) w := by
  have hf := MapKept.run_findKey (w := w) Yba.underlying3 (findNow_int .i64 x (wEs z s) 0 (wEs_keys z s))
  have hv := wEs_find z x s
  rw [if_pos hxs] at hv
  cases hw : wVal z x with
  | none =>
    rw [hw] at hv
    have hn : findI x (wEs z s) 0 = none := by simpa using hv
    rw [hn] at hf
    refine (lookup_miss (z := .bool false) ok Yba.underlying41 hb (fun em => checkKey_int Yba.underlying3 w em x) hf (by kernel_rfl)).trans ?_
    rfl
  | some v =>
    rw [hw] at hv
    obtain ⟨⟨i, u⟩, hi, hu⟩ := Option.map_eq_some_iff.1 hv
    simp only at hu
    rw [hi, hu] at hf
    refine (lookup_hit ok Yba.underlying41 hb (fun em => checkKey_int Yba.underlying3 w em x) hf).trans ?_
    cases v <;> rfl

/-- A sender that is not below s is not there. -/
theorem look_wait_out {w : World} {b : Nat} (z : Int) (x s : Nat) (c : Nat) (hb : w.heap[b]? = some (.map (wEs z s).toArray c)) (hxs : ¬ x < s) :
    (Instr.lookup 41 (.map (some b)) (.int .i64 x) false).run Yba.prog w = .ok (.bool false) w := by
  have hf := MapKept.run_findKey (w := w) Yba.underlying3 (findNow_int .i64 x (wEs z s) 0 (wEs_keys z s))
  have hv := wEs_find z x s
  rw [if_neg hxs] at hv
  have hn : findI x (wEs z s) 0 = none := by simpa using hv
  rw [hn] at hf
  exact (lookup_miss (z := .bool false) false Yba.underlying41 hb (fun em => checkKey_int Yba.underlying3 w em x) hf (by kernel_rfl))

theorem put_wait {w : World} {b : Nat} (z : Int) (s : Nat) (v : Bool) (hb : w.heap[b]? = some (.map (wEs z s).toArray (wCnt z s))) (hv : wVal z s = some v) :
    (Instr.mapUpdate 41 (.map (some b)) (.int .i64 s) (.bool v)).run Yba.prog w = .ok () (ChangeMaps.setBlock w b (.map (wEs z (s + 1)).toArray (wCnt z (s + 1)))) := by
  have hf := MapKept.run_findKey (w := w) Yba.underlying3 (findNow_int .i64 s (wEs z s) 0 (wEs_keys z s))
  have hq := wEs_find z s s
  rw [if_neg (by omega)] at hq
  have hn : findI s (wEs z s) 0 = none := by simpa using hq
  rw [hn] at hf
  refine (update_new Yba.underlying41 hb (fun em => checkKey_int Yba.underlying3 w em s) hf).trans ?_
  simp [wEs, wCnt, hv, wEs_len]

/-! ### the channels -/
theorem look_ch {w : World} {b : Nat} (sl : Nat → Value) (x c k : Nat) (ok : Bool) (hb : w.heap[b]? = some (.map (chL sl 0 c).toArray k)) (hx : x < c) :
    (Instr.lookup 38 (.map (some b)) (chK x) ok).run Yba.prog w = .ok (if ok then .tuple #[sl x, .bool true] else sl x) w := by
  have hf := findKey_ch w x sl c
  rw [if_pos hx] at hf
  exact lookup_hit ok Yba.underlying38 hb (fun em => checkKey_ch w em x) hf

theorem put_ch_new {w : World} {b : Nat} (sl : Nat → Value) (c : Nat) (hb : w.heap[b]? = some (.map (chL sl 0 c).toArray c)) :
    (Instr.mapUpdate 38 (.map (some b)) (chK c) (sl c)).run Yba.prog w = .ok () (ChangeMaps.setBlock w b (.map (chL sl 0 (c + 1)).toArray (c + 1))) := by
  have hf := findKey_ch w c sl c
  rw [if_neg (by omega)] at hf
  refine (update_new Yba.underlying38 hb (fun em => checkKey_ch w em c) hf).trans ?_
  simp [chL, List.range'_concat, chE]

theorem same_ch' (d : Nat) (x : Int) : Instr.sameBits (d + 1) (chK x) (chK x) = true := by simp [Instr.sameBits, chK]
theorem same_ch (x : Int) : Instr.sameBits 10000 (chK x) (chK x) = true := same_ch' 9999 x

theorem put_ch_old {w : World} {b : Nat} (sl : Nat → Value) (x c k : Nat) (v : Value) (hb : w.heap[b]? = some (.map (chL sl 0 c).toArray k)) (hx : x < c) :
    (Instr.mapUpdate 38 (.map (some b)) (chK x) v).run Yba.prog w = .ok () (ChangeMaps.setBlock w b (.map (chL (fun s => if s = x then v else sl s) 0 c).toArray k)) := by
  have hf := findKey_ch w x sl c
  rw [if_pos hx] at hf
  refine (update_old Yba.underlying38 hb (fun em => checkKey_ch w em x) hf ?_).trans ?_
  · have : ((chL sl 0 c).toArray[x]?.map (·.key)).getD (chK x) = chK x := by simp [chL, hx, chE]
    rw [this]
    exact same_ch x
  · have : (chL sl 0 c).toArray.modify x (fun e => { e with key := chK x, val := v }) = (chL (fun s => if s = x then v else sl s) 0 c).toArray := by
      apply Array.ext_getElem?
      intro i
      simp only [Array.getElem?_modify, List.getElem?_toArray, chL, List.getElem?_map, List.getElem?_range']
      by_cases hi : i < c
      · by_cases hix : x = i
        · subst hix; simp [hi, chE]
        · have : ¬ i = x := fun e => hix e.symm
          simp [hi, hix, this, chE]
      · simp [hi]
    rw [this]

/-! ### the map of the recordings: key k + 1 leads to block h k + 2 -/
/-- How a pointer to a block's head reads, for the laws on maps. -/
def Rp : Value → Option (DataW Unit × List MemPlace)
  | .pointer (some ⟨b, 0, none⟩) => some (.lit (.int .u64 b), [])
  | .pointer none => some (.nil, [])
  | _ => none
theorem Rp_mk (b : Nat) : Rp (.pointer (some ⟨b, 0, none⟩)) = some (.lit (.int .u64 b), []) := rfl
theorem law31 : Keyed Yba.prog 31 := int_keyed Yba.underlying31
def kL (k : Nat) : Lit := .int .u64 (k + 1)
theorem kL_inj {a b : Nat} (h : kL a = kL b) : a = b := by simp [kL] at h; omega
theorem kL_key (k : Nat) : WideAt.IsKeyLit (kL k) := trivial
/-- The map of the first n recordings, recording k's block at g k. -/
def Dk (g : Nat → Nat) : Nat → DataW Unit
  | 0 => .map []
  | k + 1 => (Dk g k).put (kL k) (.lit (.int .u64 (g k)))
theorem Dk_isMap (g : Nat → Nat) : ∀ n, IsMap (Dk g n)
  | 0 => isMap_empty
  | n + 1 => (Dk_isMap g n).put _ _
theorem Dk_at (g : Nat → Nat) (k : Nat) (z : DataW Unit) : ∀ n, k < n → (Dk g n).atKey (kL k) z = .lit (.int .u64 (g k))
  | 0, h => by omega
  | n + 1, h => by
    by_cases hk : k = n
    · subst hk; exact atKey_put_same (Dk_isMap g k) (kL_key k) _ _
    · exact (atKey_put_other (fun e => hk (kL_inj e)) _ _).trans (Dk_at g k z n (by omega))
theorem Dk_has (g : Nat → Nat) (kl : Lit) : ∀ n, Maps.has (Dk g n) kl = true → ∃ k, k < n ∧ kl = kL k
  | 0, h => by simp [Dk, Maps.has] at h
  | n + 1, h => by
    by_cases hk : kl = kL n
    · exact ⟨n, by omega, hk⟩
    · rw [Dk, has_put_other hk] at h
      obtain ⟨k, h1, h2⟩ := Dk_has g kl n h
      exact ⟨k, by omega, h2⟩
theorem Dk_hasNo (g : Nat → Nat) (n k : Nat) (h : ¬ k < n) : Maps.has (Dk g n) (kL k) = false := by
  cases hh : Maps.has (Dk g n) (kL k)
  · rfl
  · obtain ⟨j, h1, h2⟩ := Dk_has g _ n hh
    have := kL_inj h2
    omega
theorem Dk_hasYes (g : Nat → Nat) (k : Nat) : ∀ n, k < n → Maps.has (Dk g n) (kL k) = true
  | 0, h => by omega
  | n + 1, h => by
    by_cases hk : k = n
    · subst hk; exact has_put_same (Dk_isMap g k) (kL_key k) _
    · rw [Dk, has_put_other (fun e => hk (kL_inj e))]; exact Dk_hasYes g k n (by omega)
end Go.Proofs.Ybulkalji
