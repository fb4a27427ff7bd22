import Derived.Test.YbulkaljiFmtFE
import Derived.Maps.AppendAt
namespace Go.Proofs.YbulkaljiFmt
open Go.RowKit Go.Extern.Stop Go.Stop Go.Extern
set_option linter.unusedVariables false
set_option linter.unusedSimpArgs false

theorem info5b : (Ybaf.prog.info? 5).map (fun i => (i.zero, i.size, i.bytes)) = some (some (.int .u8 0), 1, 1) := by kernel_rfl

/-- The cells of the bytes z 0 .. z (len - 1). -/
def cellsOf (z : Nat → Nat) (len : Nat) : List Value := (List.range len).map fun j => .int .u8 (z j)
theorem cellsOf_len (z : Nat → Nat) (len : Nat) : (cellsOf z len).length = len := by simp [cellsOf]
theorem cellsOf_get (z : Nat → Nat) (len j : Nat) (h : j < len) : (cellsOf z len)[j]? = some (.int .u8 (z j)) := by simp [cellsOf, h]
theorem cellsOf_one (z : Nat → Nat) (len : Nat) : ∀ u ∈ cellsOf z len, u.oneCell' = true := by
  intro u hu
  obtain ⟨j, _, rfl⟩ := List.mem_map.1 hu
  rfl

/-- A slice of bytes whose elements lie in memory: nil, or at an address. -/
def RowAt (w : World) (a : Option Addr) (len cap : Nat) (z : Nat → Nat) : Prop :=
  (a = none ∧ len = 0 ∧ cap = 0) ∨ ∃ x, a = some x ∧ ∀ j, j < len → w.cell? (x.add j) = some (.int .u8 (z j))

/-- append(buf, xs...), buf the call's own. -/
theorem app_row {w : World} {base : Nat} {v : Value} {n : Nat} {xs : List Value} (hown : w.ownsRow base 5 1 v n xs) {a : Option Addr} {len cap : Nat} {z : Nat → Nat} (hr : RowAt w a len cap z) (ty : TypeId) (hb : base ≤ w.heap.size) (hn : n + len ≤ 100000) :
    ∃ v' w', (Builtin.append_ #[22, 22] ty #[v, .slice a len cap]).run Ybaf.prog w = .ok v' w' ∧ w'.ownsRow base 5 1 v' (n + len) (xs ++ cellsOf z len) ∧ w.grownBy w' v.ownBlock := by
  obtain ⟨i0, hi, hz0, hz1, hz2⟩ := info_parts info5b
  rcases hr with ⟨rfl, rfl, rfl⟩ | ⟨x, rfl, hc⟩
  · refine ⟨v, w, run_append_owned_none w base 22 ty 5 i0 1 Ybaf.underlying22 hi v n xs hown, ?_, World.grownBy.refl w _⟩
    simpa [cellsOf] using hown
  · obtain ⟨v', w', h1, h2, h3, _⟩ := run_append_own_at (P := Ybaf.prog) w base 22 ty 5 i0 (.int .u8 0) 1 1 Ybaf.underlying22 hi hz0 hz1 hz2 rfl (by decide) v n xs hown x len cap (cellsOf z len) (by simp [cellsOf_len])
      (fun j u hj => by
        have hlt : j < len := by
          have := (List.getElem?_eq_some_iff.1 hj).1
          rwa [cellsOf_len] at this
        rw [cellsOf_get z len j hlt] at hj
        rw [hc j hlt]; exact hj) (cellsOf_one z len) (by unfold maxLen; omega) (by omega) hb
    exact ⟨v', w', h1, h2, h3⟩

theorem wpList_append_raw {P : Program} (w : World) {ops : Array Oper} {rest : List Oper} {o : Oper} {a : Act} {Q : Exit → Act → World → Prop} (hg : o.guard = none) (s x : Operand) (t : TypeId)
    (hop : o.op = .call { callee := .builtin .append, args := #[s, x], argTypes := #[t, t] }) (v u v' : Value) (w' : World) (hs : a.eval s = v) (hx : a.eval x = u)
    (hrun : (Builtin.append_ #[t, t] o.type #[v, u]).run P w = .ok v' w') (hK : wpList P ops Q rest (a.put o.dst v') w') : wpList P ops Q (o :: rest) a w := by
  refine wpList_plain hg fun K hK' => ?_
  unfold Oper.wp execOp
  simp only [hop, resolve, invoke, builtin, Sem.run_bind, Sem.run_pure, Result.andThen_ok, List.map_toArray, List.map_cons, List.map_nil, hs, hx, hrun]
  exact hK' _ _ hK

theorem grown_al (w1 : World) (o : Obj) : w1.grownBy (w1.alloc o) none := ⟨rfl, rfl, rfl, by simp, fun i hi _ => Below.heap_alloc w1 o i hi⟩
theorem own_alloc {w : World} {base : Nat} {e : TypeId} {size : Nat} {v : Value} {n : Nat} {xs : List Value} (h : w.ownsRow base e size v n xs) (o : Obj) : (w.alloc o).ownsRow base e size v n xs :=
  h.kept (grown_al w o) (by by_cases hv : v.ownBlock = none; exact .inl hv; exact .inr hv)

/-! ### zzs1854cput -/
/-- The varint of n below 16384. -/
def vbyte (n : Nat) (j : Nat) : Nat := if n < 128 then n else if j = 0 then n % 128 + 128 else n / 128
def vlen (n : Nat) : Nat := if n < 128 then 1 else 2

set_option maxRecDepth 100000 in
theorem or128 : ∀ a : Nat, a < 256 → a ||| 128 = a % 128 + 128 := by decide
theorem first_byte {n : Nat} : bits .or .u8 (IntKind.u8.wrap (n : Int)) 128 = ((n % 128 + 128 : Nat) : Int) := by
  have e : IntKind.u8.wrap (n : Int) = ((n % 256 : Nat) : Int) := by rw [IntKind.wrap_u8]; omega
  rw [e]
  have h := (bits_nat .u8 8 (by decide) wraps_u8 (n % 256) 128 (by omega) (by decide)).2
  rw [or128 (n % 256) (by omega), show n % 256 % 128 = n % 128 from by omega] at h
  exact h

set_option maxRecDepth 100000 in
set_option maxHeartbeats 400000 in
theorem put_small (n : Nat) (w : World) (hn : n < 128) :
    Calls Ybaf.prog 5 #[.slice none 0 0, .int .u64 n] w fun e w' => ∃ v, e = .returned v ∧ w'.ownsRow w.heap.size 5 1 v 1 (cellsOf (vbyte n) 1) ∧ Below w.heap.size w w' := by
  have hv : ∀ j, vbyte n j = n := fun j => by simp [vbyte, hn]
  have hcs : cellsOf (vbyte n) 1 = [.int .u8 (n : Int)] := by simp [cellsOf, hv]
  rw [hcs]
  clear hcs hv
  obtain ⟨i0, hi, hz0, hz1, hz2⟩ := info_parts info5b
  go_enter Ybaf.func5, Ybaf.ntmps5
  go_wp2_with fail
  refine wp_loop_rounds 1 ?_
  rw [rounds_succ]
  go_wp2_with (first
    | (at_builtin; refine wpList_append_own_at _ rfl _ _ 22 rfl w.heap.size 5 i0 (.int .u8 0) 1 1 Ybaf.underlying22 hi hz0 hz1 hz2 rfl (by decide) (.slice none 0 0) 0 [] rfl (World.ownsRow_nil _ _ _ _) ⟨w.heap.size, 0, none⟩ 1 1 [.int .u8 (n : Int)] rfl rfl (cell_one_new _ _ _) (ints_oneCell .u8 [(n : Int)]) (by unfold maxLen; omega) (by omega) (by simp) ?_; intro v' w1 hown' hgrow hnil hloc)
    | go_in)
  go_ret
  exact ⟨v', rfl, hown', ((Below.refl _ _).alloc (Nat.le_refl _) _).grown hgrow (by simp) (by intro k hk; cases hk)⟩

set_option maxRecDepth 100000 in
set_option maxHeartbeats 400000 in
theorem put_two (n : Nat) (w : World) (hn : 128 ≤ n) (hn2 : n < 16384) :
    Calls Ybaf.prog 5 #[.slice none 0 0, .int .u64 n] w fun e w' => ∃ v, e = .returned v ∧ w'.ownsRow w.heap.size 5 1 v 2 (cellsOf (vbyte n) 2) ∧ Below w.heap.size w w' := by
  have hcs : cellsOf (vbyte n) 2 = [.int .u8 ((n % 128 + 128 : Nat) : Int), .int .u8 ((n / 128 : Nat) : Int)] := by simp [cellsOf, vbyte, show ¬ n < 128 from by omega, List.range, List.range.loop]
  rw [hcs]
  clear hcs
  obtain ⟨i0, hi, hz0, hz1, hz2⟩ := info_parts info5b
  have hfb : bits .or .u8 ((n : Int) % 256) 128 = ((n % 128 + 128 : Nat) : Int) := by rw [← IntKind.wrap_u8]; exact first_byte
  generalize hbb : ((n % 128 + 128 : Nat) : Int) = b0 at *
  go_enter Ybaf.func5, Ybaf.ntmps5
  go_wp2_with fail
  refine wp_loop_rounds 2 ?_
  rw [rounds_succ]
  go_wp2_with (first
    | (at_builtin; refine wpList_append_own_at _ rfl _ _ 22 rfl w.heap.size 5 i0 (.int .u8 0) 1 1 Ybaf.underlying22 hi hz0 hz1 hz2 rfl (by decide) (.slice none 0 0) 0 [] rfl (World.ownsRow_nil _ _ _ _) ⟨w.heap.size, 0, none⟩ 1 1 [.int .u8 b0] rfl rfl (cell_one_new _ _ _) (ints_oneCell .u8 [b0]) (by unfold maxLen; omega) (by omega) (by simp) ?_; intro v1 w1 hown1 hgrow1 hnil1 hloc1)
    | go_in)
  clear hfb
  rw [rounds_succ]
  have hsz : w.heap.size ≤ w1.heap.size := by have := hgrow1.size; simp at this; omega
  go_wp2_with (first
    | (at_builtin; refine wpList_append_own_at _ rfl _ _ 22 rfl w.heap.size 5 i0 (.int .u8 0) 1 1 Ybaf.underlying22 hi hz0 hz1 hz2 rfl (by decide) v1 1 [.int .u8 b0] rfl (own_alloc hown1 _) ⟨w1.heap.size, 0, none⟩ 1 1 [.int .u8 ((n / 128 : Nat) : Int)] rfl rfl (cell_one_new _ _ _) (ints_oneCell .u8 [((n / 128 : Nat) : Int)]) (by unfold maxLen; omega) (by omega) (by simp; omega) ?_; intro v2 w2 hown2 hgrow2 hnil2 hloc2)
    | go_in)
  go_ret
  refine ⟨v2, rfl, hown2, (((((Below.refl _ _).alloc (Nat.le_refl _) _).grown hgrow1 (by simp) (by intro k hk; cases hk)).alloc (by omega) _).grown hgrow2 (by simp; omega) (fun k hk => (hown1.lt k hk).1))⟩

end Go.Proofs.YbulkaljiFmt
