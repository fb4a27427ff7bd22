import Derived.Test.YbulkaljiTA
import Derived.Test.YbulkaljiKB
import Derived.Lib.SmallJoins
import Derived.WalkSmall
import Derived.Deep.QuietTactic
import Derived.BigQuiet
namespace Go.Proofs.Ybulkalji
open Go.RowKit
set_option linter.unusedVariables false
set_option linter.unusedSimpArgs false

theorem wraps_u64 (n : Int) (h₀ : 0 ≤ n) (h₁ : n < 2 ^ 64) : IntKind.u64.wrap n = n := by rw [IntKind.wrap_u64]; omega
theorem key_or {n c : Nat} (hn : n < 16777216) (hc : c < 256) : bits .or .u64 ((n : Int) * 256) (c : Int) = ((n * 256 + c : Nat) : Int) := by
  have h := (bits_nat .u64 64 (by decide) wraps_u64 (n * 256) c (by omega) (by omega)).2
  rw [show ((n : Int) * 256) = ((n * 256 : Nat) : Int) from by simp, h]
  have := Nat.two_pow_add_eq_or_of_lt (i := 8) (b := c) (by omega) n
  rw [show 2 ^ 8 * n = n * 256 from by omega] at this
  rw [this]

set_option maxRecDepth 100000 in
theorem kidKey_walk (n c : Nat) (w : World) (hn : n < 16777216) (hc : c < 256) :
    Calls Yba.prog 13 #[.int .u32 n, .int .u8 c] w fun e w' => e = .returned (.int .u64 ((n * 256 + c : Nat) : Int)) ∧ w' = w := by
  go_enter Yba.func13, Yba.ntmps13
  go_wp2
  go_ret
  exact ⟨congrArg (fun x => Ending.returned (.int .u64 x)) (key_or hn hc), rfl⟩

/-- Where the last quote among the first n bytes stands, or -1. -/
def lqN (s : ByteArray) : Nat → Int
  | 0 => -1
  | n + 1 => if s.data.toList.getD n 0 = 34 then n else lqN s n
def lq (s : ByteArray) : Int := lqN s s.size

theorem lqN_bounds (s : ByteArray) : ∀ n, -1 ≤ lqN s n ∧ lqN s n < n
  | 0 => by simp [lqN]
  | n + 1 => by
    have := lqN_bounds s n
    unfold lqN
    split <;> omega

theorem get_eq (s : ByteArray) (k : Nat) (hk : k < s.size) : s[k] = s.data.toList.getD k 0 := by
  have h : k < s.data.size := hk
  show s.data[k] = _
  rw [List.getD_eq_getElem?_getD, Array.getElem?_toList, Array.getElem?_eq_getElem h]
  rfl

set_option maxRecDepth 100000 in
theorem lis_walk (s : ByteArray) (w : World) (hs : s.size ≤ 281474976710656) :
    Calls Yba.prog 12 #[.string s, .int .u8 34] w fun e w' => e = .returned (.int .i64 (lq s)) ∧ w' = w := by
  go_enter Yba.func12, Yba.ntmps12
  go_wp2_with fail
  go_loopw [5] (fun i wr => ∃ k : Nat, k ≤ s.size ∧ i = .int .i64 ((k : Int) - 1) ∧ lqN s k = lq s ∧ wr = w) (fun i _ => (intOf i + 1).toNat)
  case atStart => exact ⟨s.size, Nat.le_refl _, rfl, rfl, rfl⟩
  case round =>
    obtain ⟨k, hk, rfl, hl, rfl⟩ := hrel
    match k with
    | 0 =>
      go_wp2
      go_ret
      exact ⟨by rw [← hl]; rfl, rfl⟩
    | k + 1 =>
      have hl' : Hid (lq s = if s.data.toList.getD k 0 = 34 then (k : Int) else lqN s k) := hl.symm
      have hI : (((k + 1 : Nat) : Int) - 1) = (k : Int) := by omega
      rw [hI]
      clear hl hI
      by_cases he : s.data.toList.getD k 0 = 34
      · have hb' : ((s[k]'(by omega)).toNat : Int) = 34 := by rw [get_eq s k hk, he]; rfl
        go_wp2
        go_ret
        exact ⟨by rw [hl'.out, if_pos he]; rfl, rfl⟩
      · have hb' : (((s[k]'(by omega)).toNat : Int) == 34) = false := by
          rw [get_eq s k hk]
          simp only [beq_eq_false_iff_ne, ne_eq]
          intro e
          exact he (UInt8.toNat_inj.1 (by simpa using (by omega : (s.data.toList.getD k 0).toNat = 34)))
        have hl2 : Hid (lqN s k = lq s) := by rw [hl'.out, if_neg he]; exact rfl
        clear hl' he
        go_wp2
        go_roundw
        case rel => exact ⟨k, by omega, by go_num, hl2.out, trivial⟩
        case measure => simp [intOf] <;> omega

set_option maxRecDepth 100000 in
theorem lib_walk (s : ByteArray) (w : World) (hs : s.size ≤ 281474976710656) :
    Calls Yba.prog 8 #[.string s, .int .u8 34] w fun e w' => e = .returned (.int .i64 (lq s)) ∧ w' = w := by
  go_enter Yba.func8, Yba.ntmps8
  go_wp2_with fail
  refine (lis_walk s w hs).mono ?_
  rintro e w1 ⟨rfl, rfl⟩
  go_wp2
  go_ret
  exact ⟨rfl, rfl⟩

/-! ### the map of kids: integer keys, by what a look-up finds -/
def look (es : Array MapEntry) (x : Int) : Option Value := (findI x es.toList 0).map (·.2)

theorem findI_shift (x : Int) : ∀ (es : List MapEntry) (i j : Nat), findI x es (i + j) = (findI x es i).map fun p => (p.1 + j, p.2)
  | [], i, j => rfl
  | e :: es, i, j => by
    have := findI_shift x es (i + 1) j
    simp only [findI]
    cases hk : e.key with
    | int q y =>
      simp only
      by_cases h : x = y
      · simp [h]
      · simp only [h, if_false]
        rw [show i + j + 1 = i + 1 + j from by omega, this]
    | _ => rfl

theorem findI_append (q : IntKind) (x : Int) (v : Value) (y : Int) (born : Nat) : ∀ (es : List MapEntry) (i : Nat), IntKeys q es → (findI x (es ++ [{ key := .int q y, val := v, born := born }]) i).map (·.2) = ((findI x es i).map (·.2)).or (if x = y then some v else none)
  | [], i, _ => by
    by_cases h : x = y <;> simp [findI, h]
  | e :: es, i, h => by
    obtain ⟨z, hz⟩ := h e (by simp)
    have ih := findI_append q x v y born es (i + 1) (fun e' he' => h e' (by simp [he']))
    simp only [List.cons_append, findI, hz]
    by_cases h1 : x = z
    · simp [h1]
    · simp only [h1, if_false]
      exact ih

theorem findI_hit (q : IntKind) (x : Int) : ∀ (es : List MapEntry) (i j : Nat) (u : Value), IntKeys q es → findI x es i = some (j, u) → i ≤ j ∧ ∃ e, es[j - i]? = some e ∧ e.key = .int q x ∧
    ∀ (v : Value) (y : Int), (findI y (es.modify (j - i) fun e => { e with key := .int q x, val := v }) i).map (·.2) = if y = x then some v else (findI y es i).map (·.2)
  | [], i, j, u, _, h => by simp [findI] at h
  | e :: es, i, j, u, hk, h => by
    obtain ⟨z, hz⟩ := hk e (by simp)
    simp only [findI, hz] at h
    by_cases h1 : x = z
    · simp only [h1, if_true, Option.some.injEq, Prod.mk.injEq] at h
      obtain ⟨rfl, rfl⟩ := h
      refine ⟨Nat.le_refl _, e, by simp, by rw [hz, h1], fun v y => ?_⟩
      simp only [Nat.sub_self, List.modify_zero_cons, findI, hz, h1]
      by_cases h2 : y = z <;> simp [h2]
    · simp only [h1, if_false] at h
      obtain ⟨hle, e', he', hk', ih⟩ := findI_hit q x es (i + 1) j u (fun e'' h'' => hk e'' (by simp [h''])) h
      have hj : j - i = (j - (i + 1)) + 1 := by omega
      refine ⟨by omega, e', by rw [hj]; simpa using he', hk', fun v y => ?_⟩
      rw [hj]
      simp only [List.modify_succ_cons, findI, hz]
      by_cases h2 : y = z
      · have : ¬ y = x := by omega
        simp [h2, this]
        intro h3; omega
      · simp only [h2, if_false]
        exact ih v y

theorem intKeys_modify {q : IntKind} {x : Int} {v : Value} : ∀ (es : List MapEntry) (i : Nat), IntKeys q es → IntKeys q (es.modify i fun e => { e with key := .int q x, val := v })
  | [], i, h => by simpa using h
  | e :: es, 0, h => by
    intro e' he'
    simp only [List.modify_zero_cons, List.mem_cons] at he'
    rcases he' with rfl | he'
    · exact ⟨x, rfl⟩
    · exact h e' (by simp [he'])
  | e :: es, i + 1, h => by
    intro e' he'
    simp only [List.modify_succ_cons, List.mem_cons] at he'
    rcases he' with rfl | he'
    · exact h _ (by simp)
    · exact intKeys_modify es i (fun e'' h'' => h e'' (by simp [h''])) e' he'

theorem findKey_u64 {w : World} {es : List MapEntry} (hk : IntKeys .u64 es) (x : Int) : (Instr.findKey 31 (.int .u64 x) es).run Yba.prog w = .ok (findI x es 0) w := by
  simp [Instr.findKey, run_underlying Yba.underlying31, findNow_int .u64 x es 0 hk]

theorem kids_get {w : World} {b clock : Nat} {es : Array MapEntry} (hb : w.heap[b]? = some (.map es clock)) (hk : IntKeys .u64 es.toList) (x : Int) :
    (Instr.lookup 71 (.map (some b)) (.int .u64 x) true).run Yba.prog w = .ok (match look es x with | some v => .tuple #[v, .bool true] | none => .tuple #[.int .u32 0, .bool false]) w := by
  have hf := findKey_u64 (w := w) hk x
  unfold look
  cases h : findI x es.toList 0 with
  | none =>
    rw [h] at hf
    exact lookup_miss true Yba.underlying71 hb (fun em => checkKey_int Yba.underlying31 w em x) hf (by kernel_rfl)
  | some p =>
    obtain ⟨i, v⟩ := p
    rw [h] at hf
    exact lookup_hit true Yba.underlying71 hb (fun em => checkKey_int Yba.underlying31 w em x) hf

theorem kids_set {w : World} {b clock : Nat} {es : Array MapEntry} (hb : w.heap[b]? = some (.map es clock)) (hk : IntKeys .u64 es.toList) (x : Int) (v : Value) :
    ∃ es' clock', (Instr.mapUpdate 71 (.map (some b)) (.int .u64 x) v).run Yba.prog w = .ok () (ChangeMaps.setBlock w b (.map es' clock')) ∧ IntKeys .u64 es'.toList ∧ ∀ y, look es' y = if y = x then some v else look es y := by
  have hf := findKey_u64 (w := w) hk x
  cases h : findI x es.toList 0 with
  | none =>
    rw [h] at hf
    refine ⟨_, _, update_new Yba.underlying71 hb (fun em => checkKey_int Yba.underlying31 w em x) hf, ?_, fun y => ?_⟩
    · intro e he
      simp only [Array.toList_push, List.mem_append, List.mem_singleton] at he
      rcases he with he | rfl
      · exact hk e he
      · exact ⟨x, rfl⟩
    · unfold look
      rw [Array.toList_push, findI_append .u64 y v x clock es.toList 0 hk]
      by_cases e : y = x
      · subst e
        rw [h]
        simp
      · simp [e]
  | some p =>
    obtain ⟨i, u⟩ := p
    rw [h] at hf
    obtain ⟨_, e, he, hke, hm⟩ := findI_hit .u64 x es.toList 0 i u hk h
    simp only [Nat.sub_zero] at he hm
    refine ⟨_, _, update_old Yba.underlying71 hb (fun em => checkKey_int Yba.underlying31 w em x) hf ?_, ?_, fun y => ?_⟩
    · have : es[i]? = some e := by simpa using he
      rw [this]
      simp [hke, Instr.sameBits]
    · simpa using intKeys_modify es.toList i hk
    · unfold look
      rw [Array.toList_modify]
      exact hm v y

end Go.Proofs.Ybulkalji
