import Derived.Test.YbulkaljiRows
import Derived.WalkKit
import Derived.Below
import Derived.Maps.RangeWalk
namespace Go.Proofs.Ybulkalji
open Go.RowKit
set_option linter.unusedVariables false
set_option linter.unusedSimpArgs false

/-! ### a map's block, read and written by what it holds -/

/-- The first entry at the integer x: its place and its element. -/
def findI (x : Int) : List MapEntry → Nat → Option (Nat × Value)
  | [], _ => none
  | e :: es, i => match e.key with
    | .int _ y => if x = y then some (i, e.val) else findI x es (i + 1)
    | _ => none

def IntKeys (q : IntKind) (es : List MapEntry) : Prop := ∀ e ∈ es, ∃ y, e.key = .int q y

theorem findNow_int (q : IntKind) (x : Int) : ∀ (es : List MapEntry) (i : Nat), IntKeys q es → Instr.findNow (.int q) (.int q x) es i = some (findI x es i)
  | [], i, _ => rfl
  | e :: es, i, h => by
    obtain ⟨y, hy⟩ := h e (by simp)
    have ih := findNow_int q x es (i + 1) (fun e' he' => h e' (by simp [he']))
    simp only [Instr.findNow, Instr.sameNow, hy, findI, if_true]
    by_cases hxy : x = y
    · simp [hxy]
    · have : (x == y) = false := by simp [hxy]
      simp [hxy, this, ih]

/-- The key of a channel {x, 9}. -/
def chK (x : Int) : Value := .agg #[.int .i64 x, .int .i64 9]

/-- The channels' entries: the key {s, 9} holds sl s, s = i, i + 1, .. -/
def chE (sl : Nat → Value) (s : Nat) : MapEntry := { key := chK s, val := sl s, born := s }
def chL (sl : Nat → Value) (i c : Nat) : List MapEntry := (List.range' i c).map (chE sl)
theorem chL_cons (sl : Nat → Value) (i c : Nat) : chL sl i (c + 1) = chE sl i :: chL sl (i + 1) c := by simp [chL, List.range'_succ]

theorem fields47 : (Yba.prog.fieldsOf 47).toList = [{ name := "From", type := 3, offset := 0, embedded := false, tag := "", pkgPath := "", byteOffset := 0 }, { name := "To", type := 3, offset := 1, embedded := false, tag := "", pkgPath := "", byteOffset := 8 }] := by kernel_rfl
theorem under47 : Yba.prog.underlying 47 = some (.struct (Yba.prog.fieldsOf 47)) := by kernel_rfl
theorem held47 : Yba.prog.stoodInHeld 47 = false := by kernel_rfl

theorem equal_ch (w : World) (x y : Int) : (Op.equal 47 (chK x) (chK y)).run Yba.prog w = .ok (x == y) w := by
  show (Op.equalIn (9998 + 1 + 1) 47 _ _).run Yba.prog w = _
  unfold chK
  rw [run_equalIn_struct w _ 47 _ _ under47 held47, fields47]
  simp [Op.eqFields, go_sem, Yba.underlying3]
  by_cases h : x = y
  · simp [h]
  · rw [if_neg h]; simp [h]

theorem findAsking_ch (w : World) (x : Nat) (sl : Nat → Value) : ∀ (c i : Nat), (Instr.findAsking 47 (chK x) (chL sl i c) i).run Yba.prog w = .ok (if i ≤ x ∧ x < i + c then some (x, sl x) else none) w
  | 0, i => by rw [if_neg (by omega)]; rfl
  | c + 1, i => by
    have ih := findAsking_ch w x sl c (i + 1)
    rw [chL_cons]
    simp only [Instr.findAsking, Sem.run_bind, chE, equal_ch, Result.andThen_ok]
    by_cases hxy : x = i
    · subst hxy
      simp
    · have : ((x : Int) == (i : Int)) = false := by simp; omega
      rw [this]
      simp only [Bool.false_eq_true, if_false]
      refine ih.trans ?_
      by_cases h : i ≤ x ∧ x < i + (c + 1)
      · rw [if_pos h, if_pos (by omega)]
      · rw [if_neg h, if_neg (by omega)]

theorem findKey_ch (w : World) (x : Nat) (sl : Nat → Value) (c : Nat) : (Instr.findKey 47 (chK x) (chL sl 0 c)).run Yba.prog w = .ok (if x < c then some (x, sl x) else none) w := by
  have hk := run_underlying Yba.underlying47 w
  cases c with
  | zero => simp [Instr.findKey, hk, Instr.findNow, chL]
  | succ c =>
    have := findAsking_ch w x sl (c + 1) 0
    simp only [Instr.findKey, Sem.run_bind, hk, Result.andThen_ok]
    have hn : ∀ d, Instr.findNow (.struct d) (chK x) (chL sl 0 (c + 1)) 0 = none := by
      intro d
      rw [chL_cons]
      simp [Instr.findNow, Instr.sameNow]
    rw [hn]
    simpa using this

theorem checkKey_ch' (w : World) (em : Bool) (x : Int) (d : Nat) : (Instr.checkKey em (d + 1 + 1) 47 (chK x)).run Yba.prog w = .ok () w := by
  have hk := run_underlying Yba.underlying47 w
  have h3 := run_underlying Yba.underlying3 w
  simp [Instr.checkKey, hk, h3, chK, go_sem]
theorem checkKey_ch (w : World) (em : Bool) (x : Int) : (Instr.checkKey em 10000 47 (chK x)).run Yba.prog w = .ok () w := checkKey_ch' w em x 9998

theorem checkKey_int {P : Program} {k : TypeId} {q : IntKind} (hk : P.underlying k = some (.int q)) (w : World) (em : Bool) (x : Int) : (Instr.checkKey em 10000 k (.int q x)).run P w = .ok () w :=
  MapKept.run_checkKey hk (by simp [MapKept.IsKey]) em 9999

theorem lookup_hit {P : Program} {w : World} {t k e : TypeId} {b : Nat} {es : Array MapEntry} {clock : Nat} {key : Value} (ok : Bool) (ht : P.underlying t = some (.map k e)) (hb : w.heap[b]? = some (.map es clock))
    (hck : ∀ em, (Instr.checkKey em 10000 k key).run P w = .ok () w) {i : Nat} {v : Value} (hf : (Instr.findKey k key es.toList).run P w = .ok (some (i, v)) w) :
    (Instr.lookup t (.map (some b)) key ok).run P w = .ok (if ok then .tuple #[v, .bool true] else v) w := by
  simp [Instr.lookup, run_underlying ht, MapKept.run_getObj_map hb, hck, hf, Result.andThen]

theorem lookup_miss {P : Program} {w : World} {t k e : TypeId} {b : Nat} {es : Array MapEntry} {clock : Nat} {key z : Value} (ok : Bool) (ht : P.underlying t = some (.map k e)) (hb : w.heap[b]? = some (.map es clock))
    (hck : ∀ em, (Instr.checkKey em 10000 k key).run P w = .ok () w) (hf : (Instr.findKey k key es.toList).run P w = .ok none w) (hz : (zeroValue e).run P w = .ok z w) :
    (Instr.lookup t (.map (some b)) key ok).run P w = .ok (if ok then .tuple #[z, .bool false] else z) w := by
  simp [Instr.lookup, run_underlying ht, MapKept.run_getObj_map hb, hck, hf, hz, Result.andThen]

theorem update_new {P : Program} {w : World} {t k e : TypeId} {b : Nat} {es : Array MapEntry} {clock : Nat} {key v : Value} (ht : P.underlying t = some (.map k e)) (hb : w.heap[b]? = some (.map es clock))
    (hck : ∀ em, (Instr.checkKey em 10000 k key).run P w = .ok () w) (hf : (Instr.findKey k key es.toList).run P w = .ok none w) :
    (Instr.mapUpdate t (.map (some b)) key v).run P w = .ok () (ChangeMaps.setBlock w b (.map (es.push { key, val := v, born := clock }) (clock + 1))) := by
  simp [Instr.mapUpdate, run_underlying ht, MapKept.run_getObj_map hb, MapKept.run_setObj_map _ hb, hck, hf, Result.andThen]
  rfl

theorem update_old {P : Program} {w : World} {t k e : TypeId} {b : Nat} {es : Array MapEntry} {clock : Nat} {key v : Value} (ht : P.underlying t = some (.map k e)) (hb : w.heap[b]? = some (.map es clock))
    (hck : ∀ em, (Instr.checkKey em 10000 k key).run P w = .ok () w) {i : Nat} {u : Value} (hf : (Instr.findKey k key es.toList).run P w = .ok (some (i, u)) w) (hs : Instr.sameBits 10000 (((es[i]?).map (·.key)).getD key) key = true) :
    (Instr.mapUpdate t (.map (some b)) key v).run P w = .ok () (ChangeMaps.setBlock w b (.map (es.modify i fun e => { e with key, val := v }) clock)) := by
  simp [Instr.mapUpdate, run_underlying ht, MapKept.run_getObj_map hb, MapKept.run_setObj_map _ hb, hck, hf, Result.andThen, Instr.keyThatStays, hs]
  rfl

/-- One block has turned. -/
theorem grown_set {w : World} {b : Nat} {o o' : Obj} (hb : w.heap[b]? = some o) : w.grownBy (ChangeMaps.setBlock w b o') (some b) ∧ (ChangeMaps.setBlock w b o').heap.size = w.heap.size ∧ (ChangeMaps.setBlock w b o').heap[b]? = some o' :=
  ⟨⟨rfl, rfl, rfl, by simp [ChangeMaps.setBlock], fun i _ hi => (MapKept.heap_set hb).2 i (fun e => hi (by rw [e]))⟩, by simp [ChangeMaps.setBlock], (MapKept.heap_set hb).1⟩

/-! ### the same at the operations of a walk -/
section
variable {P : Program} (w : World) {ops : Array Oper} {rest : List Oper} {o : Oper} {a : Act} {Q : Exit → Act → World → Prop}

theorem wpList_lookup_raw (hg : o.guard = none) (m x : Operand) (t : TypeId) (ok : Bool) (hop : o.op = Op.lookup t m x ok) (mv key r : Value) (hm : a.eval m = mv) (hx : a.eval x = key)
    (hrun : (Instr.lookup t mv key ok).run P w = .ok r w) (hK : wpList P ops Q rest (a.put o.dst r) w) : wpList P ops Q (o :: rest) a w := by
  refine wpList_plain hg fun K' hK' => ?_
  unfold Oper.wp
  simp [execOp, hop, hm, hx, hrun, Result.andThen]
  exact hK' _ _ hK

theorem wpList_update_raw (hg : o.guard = none) (m x v : Operand) (t : TypeId) (hop : o.op = Op.mapUpdate t m x v) (b : Nat) (key val : Value) (hm : a.eval m = .map (some b)) (hx : a.eval x = key) (hv : a.eval v = val) (ob ob' : Obj)
    (hb : w.heap[b]? = some ob) (hrun : (Instr.mapUpdate t (.map (some b)) key val).run P w = .ok () (ChangeMaps.setBlock w b ob'))
    (hK : ∀ w', w.grownBy w' (some b) → w'.heap.size = w.heap.size → w'.heap[b]? = some ob' → wpList P ops Q rest (a.put o.dst undef) w') : wpList P ops Q (o :: rest) a w := by
  refine wpList_plain hg fun K' hK' => ?_
  unfold Oper.wp
  simp [execOp, hop, hm, hx, hv, hrun, Result.andThen]
  obtain ⟨r1, r2, r3⟩ := grown_set (o' := ob') hb
  exact hK' _ _ (hK _ r1 r2 r3)
end

end Go.Proofs.Ybulkalji
