import Derived.Test.YbulkalmaRows
import Derived.Test.YbulkalmaBA
import Derived.Below
import Derived.RegionTactic
namespace Go.Proofs.Ybulkalma
open Go.RowKit
set_option linter.unusedVariables false
set_option linter.unusedSimpArgs false

theorem ret_eq {v u : Value} (h : v = u) : Ending.returned v = Ending.returned u := by rw [h]
theorem cast_div (a s : Nat) : (a : Int) / 2 ^ s = ((a / 2 ^ s : Nat) : Int) := by
  rw [Int.natCast_ediv, Int.natCast_pow]; rfl

/-- A 64-bit number (behind a name: the walk need not see the bound). -/
def U64 (n : Nat) : Prop := n < 2 ^ 64
def bitN (hi lo j : Nat) : Nat := num2 hi lo / 2 ^ j % 2
def gHi (hi lo s : Nat) : Nat := vs hi lo s / 2 ^ 64
def gLo (hi lo s : Nat) : Nat := vs hi lo s % 2 ^ 64

theorem abit_lo {hi lo j : Nat} (l : U64 lo) (hj : j < 64) : bits .and .u64 ((lo : Int) / 2 ^ j) 1 = ((bitN hi lo j : Nat) : Int) := by
  rw [cast_div, and64_one (Nat.lt_of_le_of_lt (Nat.div_le_self _ _) l), bitN, bit_lo hj]
theorem abit_hi {hi lo j : Nat} (h : U64 hi) (l : U64 lo) (hj : 64 ≤ j) : bits .and .u64 ((hi : Int) / 2 ^ (j - 64)) 1 = ((bitN hi lo j : Nat) : Int) := by
  rw [cast_div, and64_one (Nat.lt_of_le_of_lt (Nat.div_le_self _ _) h), bitN, bit_hi l hj]

set_option maxRecDepth 100000 in
set_option maxHeartbeats 400000 in
theorem abit_any (hi lo j : Nat) (w : World) (h : U64 hi) (l : U64 lo) (hj : j < 128) :
    Calls Yba.prog 13 #[.agg #[.int .u64 hi, .int .u64 lo], .int .i64 j] w fun e w' => e = .returned (.int .u64 (bitN hi lo j)) ∧ w' = w.alloc (.cells #[.int .u64 hi, .int .u64 lo] 24) := by
  by_cases hj64 : j < 64
  · go_enter Yba.func13, Yba.ntmps13
    go_wp2
    go_ret
    refine ⟨ret_eq ?_, rfl⟩
    exact congrArg (Value.int .u64) (abit_lo l hj64)
  · go_enter Yba.func13, Yba.ntmps13
    go_wp2
    go_ret
    refine ⟨ret_eq ?_, rfl⟩
    exact congrArg (Value.int .u64) (abit_hi h l (by omega))

theorem agg2 {a b c d : Int} (h1 : a = c) (h2 : b = d) : Value.agg #[.int .u64 a, .int .u64 b] = .agg #[.int .u64 c, .int .u64 d] := by rw [h1, h2]

theorem shr_all {hi lo s : Nat} (h : U64 hi) (l : U64 lo) (hs : s = 128) : gHi hi lo s = 0 ∧ gLo hi lo s = 0 := by
  have := vs_lt (s := s) h l (by omega)
  rw [hs] at this ⊢
  have e : vs hi lo 128 = 0 := by simpa using this
  simp [gHi, gLo, e]
theorem shr_far {hi lo s : Nat} (h : U64 hi) (l : U64 lo) (hs : 64 ≤ s) : gHi hi lo s = 0 ∧ gLo hi lo s = hi / 2 ^ (s - 64) := by
  have e := vs_big (hi := hi) l hs
  have hlt : hi / 2 ^ (s - 64) < 2 ^ 64 := Nat.lt_of_le_of_lt (Nat.div_le_self _ _) h
  rw [gHi, gLo, e]
  exact ⟨Nat.div_eq_of_lt hlt, Nat.mod_eq_of_lt hlt⟩
theorem shr_near {hi lo s : Nat} (h : U64 hi) (l : U64 lo) (hs : s < 64) :
    (hi : Int) / 2 ^ s = ((gHi hi lo s : Nat) : Int) ∧ bits .or .u64 ((lo : Int) / 2 ^ s) (IntKind.u64.wrap ((hi : Int) * 2 ^ (64 - s))) = ((gLo hi lo s : Nat) : Int) := by
  constructor
  · rw [cast_div, gHi, vs_hi l (by omega)]
  · rw [cast_div, shl64, or64 (Nat.lt_of_le_of_lt (Nat.div_le_self _ _) l) (Nat.mod_lt _ (Nat.two_pow_pos 64)), gLo, vs_lo h l hs]

set_option maxRecDepth 100000 in
set_option maxHeartbeats 400000 in
theorem shr_any (hi lo s : Nat) (w : World) (h : U64 hi) (l : U64 lo) (hs : s ≤ 128) :
    Calls Yba.prog 7 #[.agg #[.int .u64 hi, .int .u64 lo], .int .i64 s] w fun e w' => e = .returned (.agg #[.int .u64 (gHi hi lo s), .int .u64 (gLo hi lo s)]) ∧ Below w.heap.size w w' := by
  by_cases h1 : 128 ≤ s
  · go_enter Yba.func7, Yba.ntmps7
    go_wp2
    obtain ⟨e1, e2⟩ := shr_all h l (show s = 128 from by omega)
    refine bodyPost_ret (v := .agg #[.int .u64 0, .int .u64 0]) (by simp [results, Yba.results7, go_sem]) rfl ⟨ret_eq (agg2 (by rw [e1]; rfl) (by rw [e2]; rfl)), ((Below.refl _ _).alloc (Nat.le_refl _) _).alloc (by simp) _⟩
  · by_cases h2 : 64 ≤ s
    · go_enter Yba.func7, Yba.ntmps7
      go_wp2
      obtain ⟨e1, e2⟩ := shr_far h l h2
      refine bodyPost_ret (v := .agg #[.int .u64 0, .int .u64 ((hi : Int) / 2 ^ (s - 64))]) (by simp [results, Yba.results7, go_sem]) rfl ⟨ret_eq (agg2 (by rw [e1]; rfl) (by rw [e2, cast_div])), ((Below.refl _ _).alloc (Nat.le_refl _) _).alloc (by simp) _⟩
    · go_enter Yba.func7, Yba.ntmps7
      go_wp2
      go_region
      go_wp2
      obtain ⟨e1, e2⟩ := shr_near h l (show s < 64 from by omega)
      refine bodyPost_ret (v := .agg #[.int .u64 ((hi : Int) / 2 ^ s), .int .u64 (bits .or .u64 ((lo : Int) / 2 ^ s) (IntKind.u64.wrap ((hi : Int) * 2 ^ (64 - s))))]) (by simp [results, Yba.results7, go_sem]) rfl ⟨ret_eq (agg2 e1 e2), (((Below.refl _ _).alloc (Nat.le_refl _) _).alloc (by simp) _).drew⟩

/-! ### the model -/
/-- The head of round i: the model's number so far, and the argument's box. -/
structure MInv (w : World) (hi lo s i : Nat) (wr : World) : Prop where
  box : wr.heap[w.heap.size]? = some (.cells #[.int .u64 hi, .int .u64 lo] 24 (0, 0))
  r : wr.heap[w.heap.size + 2]? = some (.cells #[.int .u64 (mHi hi lo s i), .int .u64 (mLo hi lo s i)] 24 (0, 0))
  res : wr.heap[w.heap.size + 1]? = some (.cells #[.int .u64 0, .int .u64 0] 24 (0, 0))
  below : Below w.heap.size w wr
  size : w.heap.size + 3 ≤ wr.heap.size

theorem or_pow {a i : Nat} (ha : a < 2 ^ 64) (hi : i < 64) : bits .or .u64 (a : Int) (IntKind.u64.wrap (2 ^ i)) = ((a ||| 2 ^ i : Nat) : Int) := by
  have hp : (2 : Nat) ^ i < 2 ^ 64 := Nat.pow_lt_pow_right (by decide) hi
  have e : IntKind.u64.wrap (2 ^ i) = ((2 ^ i : Nat) : Int) := by
    have := shl64 1 i
    rw [Nat.one_mul, Nat.mod_eq_of_lt hp] at this
    rw [← this]
    simp
  rw [e, or64 ha hp]

theorem m_start (w : World) (hi lo s : Nat) : MInv w hi lo s 0 (((w.alloc (.cells #[.int .u64 hi, .int .u64 lo] 24)).alloc (.cells #[.int .u64 0, .int .u64 0] 24)).alloc (.cells #[.int .u64 0, .int .u64 0] 24)) := by
  have a1 := MapKept.heap_alloc w (.cells #[.int .u64 hi, .int .u64 lo] 24)
  have a2 := MapKept.heap_alloc (w.alloc (.cells #[.int .u64 hi, .int .u64 lo] 24)) (.cells #[.int .u64 0, .int .u64 0] 24)
  have a3 := MapKept.heap_alloc ((w.alloc (.cells #[.int .u64 hi, .int .u64 lo] 24)).alloc (.cells #[.int .u64 0, .int .u64 0] 24)) (.cells #[.int .u64 0, .int .u64 0] 24)
  simp only [World.size_alloc] at a1 a2 a3
  obtain ⟨e1, e2⟩ := m_zero hi lo s
  refine ⟨(a3.2 _ (by omega)).trans ((a2.2 _ (by omega)).trans a1.1), ?_, (a3.2 _ (by omega)).trans a2.1, (((Below.refl _ _).alloc (Nat.le_refl _) _).alloc (by simp) _).alloc (by simp; omega) _, by simp⟩
  rw [e1, e2]
  exact a3.1

theorem blk_cell {w : World} {b : Nat} {cs : Array Value} {t : TypeId} {fr : Nat × Nat} (h : w.heap[b]? = some (.cells cs t fr)) (j : Nat) : w.cell? ⟨b, j, none⟩ = cs[j]? := by simp [World.cell?, h]
theorem blk_frozen {w : World} {b : Nat} {cs : Array Value} {t : TypeId} (h : w.heap[b]? = some (.cells cs t (0, 0))) (j : Nat) : w.frozen? ⟨b, j, none⟩ = false := by simp [World.frozen?, h]

section
variable {w wr : World} {hi lo s i : Nat}
theorem MInv.alloc (m : MInv w hi lo s i wr) (o : Obj) : MInv w hi lo s i (wr.alloc o) := by
  have a := MapKept.heap_alloc wr o
  have := m.size
  exact ⟨(a.2 _ (by omega)).trans m.box, (a.2 _ (by omega)).trans m.r, (a.2 _ (by omega)).trans m.res, m.below.alloc (by omega) _, by simp; omega⟩
theorem MInv.skip (m : MInv w hi lo s i wr) (hb : bitN hi lo (i + s) = 0) : MInv w hi lo s (i + 1) wr := by
  obtain ⟨e1, e2⟩ := m_skip (hi := hi) (lo := lo) (s := s) (i := i) hb
  refine ⟨m.box, ?_, m.res, m.below, m.size⟩
  rw [e1, e2]
  exact m.r
theorem MInv.low (m : MInv w hi lo s i wr) (hi64 : i < 64) (hb : bitN hi lo (i + s) = 1) : MInv w hi lo s (i + 1) (wr.setCell ⟨w.heap.size + 2, 1, none⟩ (.int .u64 ((mLo hi lo s i ||| 2 ^ i : Nat) : Int))) := by
  obtain ⟨e1, e2⟩ := m_low (hi := hi) (lo := lo) (s := s) (i := i) hi64 hb
  have o := fun j (hj : j ≠ w.heap.size + 2) => heap_setCell_other wr ⟨w.heap.size + 2, 1, none⟩ j (.int .u64 ((mLo hi lo s i ||| 2 ^ i : Nat) : Int)) hj
  refine ⟨(o _ (by omega)).trans m.box, ?_, (o _ (by omega)).trans m.res, m.below.setCell (by simp) _, by simpa using m.size⟩
  rw [heap_setCell_same wr _ 1 _ 24 _ m.r, e1, e2]
  rfl
theorem MInv.high (m : MInv w hi lo s i wr) (hi64 : 64 ≤ i) (hb : bitN hi lo (i + s) = 1) : MInv w hi lo s (i + 1) (wr.setCell ⟨w.heap.size + 2, 0, none⟩ (.int .u64 ((mHi hi lo s i ||| 2 ^ (i - 64) : Nat) : Int))) := by
  obtain ⟨e1, e2⟩ := m_high (hi := hi) (lo := lo) (s := s) (i := i) hi64 hb
  have o := fun j (hj : j ≠ w.heap.size + 2) => heap_setCell_other wr ⟨w.heap.size + 2, 0, none⟩ j (.int .u64 ((mHi hi lo s i ||| 2 ^ (i - 64) : Nat) : Int)) hj
  refine ⟨(o _ (by omega)).trans m.box, ?_, (o _ (by omega)).trans m.res, m.below.setCell (by simp) _, by simpa using m.size⟩
  rw [heap_setCell_same wr _ 0 _ 24 _ m.r, e1, e2]
  rfl
end

set_option maxRecDepth 100000 in
set_option maxHeartbeats 400000 in
theorem model_any (hi lo s : Nat) (w : World) (h : U64 hi) (l : U64 lo) (hs : s ≤ 128) :
    Calls Yba.prog 8 #[.agg #[.int .u64 hi, .int .u64 lo], .int .i64 s] w fun e w' => e = .returned (.agg #[.int .u64 (gHi hi lo s), .int .u64 (gLo hi lo s)]) ∧ Below w.heap.size w w' := by
  go_enter Yba.func8, Yba.ntmps8
  go_wp2_with fail
  go_loopw [6] (fun t wr => ∃ i : Nat, i ≤ 128 ∧ t = .int .i64 i ∧ MInv w hi lo s i wr) (fun t _ => 128 - (intOf t).toNat)
  case atStart => exact ⟨0, by omega, rfl, m_start w hi lo s⟩
  case round =>
    obtain ⟨i, hi128, rfl, hm⟩ := hrel
    have hsz := hm.size
    have c0 : wr.cell? ⟨w.heap.size + 1 + 1, 0, none⟩ = some (.int .u64 (mHi hi lo s i)) := (blk_cell hm.r 0).trans rfl
    have c1 : wr.cell? ⟨w.heap.size + 1 + 1, 1, none⟩ = some (.int .u64 (mLo hi lo s i)) := (blk_cell hm.r 1).trans rfl
    have d0 : wr.cell? ⟨w.heap.size, 0, none⟩ = some (.int .u64 hi) := (blk_cell hm.box 0).trans rfl
    have d1 : wr.cell? ⟨w.heap.size, 1, none⟩ = some (.int .u64 lo) := (blk_cell hm.box 1).trans rfl
    have r0 : wr.cell? ⟨w.heap.size + 1, 0, none⟩ = some (.int .u64 0) := (blk_cell hm.res 0).trans rfl
    have r1 : wr.cell? ⟨w.heap.size + 1, 1, none⟩ = some (.int .u64 0) := (blk_cell hm.res 1).trans rfl
    have f0 := blk_frozen hm.res 0
    have f1 := blk_frozen hm.res 1
    have g0 : wr.frozen? ⟨w.heap.size + 1 + 1, 0, none⟩ = false := blk_frozen hm.r 0
    have g1 : wr.frozen? ⟨w.heap.size + 1 + 1, 1, none⟩ = false := blk_frozen hm.r 1
    by_cases hend : i < 128 ∧ i + s < 128
    · obtain ⟨hi2, hge⟩ := hend
      clear r0 r1 f0 f1
      go_wp2_with fail
      rw [show ((i : Int) + (s : Int)) = ((i + s : Nat) : Int) from by omega]
      refine (abit_any hi lo (i + s) _ h l (by omega)).mono ?_
      rintro e w' ⟨rfl, rfl⟩
      have hm2 := hm.alloc (.cells #[.int .u64 hi, .int .u64 lo] 24)
      clear c0 c1 d0 d1 g0 g1
      generalize wr.alloc (.cells #[.int .u64 hi, .int .u64 lo] 24) = wq at hm2
      have c0 : wq.cell? ⟨w.heap.size + 1 + 1, 0, none⟩ = some (.int .u64 (mHi hi lo s i)) := (blk_cell hm2.r 0).trans rfl
      have c1 : wq.cell? ⟨w.heap.size + 1 + 1, 1, none⟩ = some (.int .u64 (mLo hi lo s i)) := (blk_cell hm2.r 1).trans rfl
      have g0 : wq.frozen? ⟨w.heap.size + 1 + 1, 0, none⟩ = false := blk_frozen hm2.r 0
      have g1 : wq.frozen? ⟨w.heap.size + 1 + 1, 1, none⟩ = false := blk_frozen hm2.r 1
      by_cases hb : bitN hi lo (i + s) = 1
      · have HB : Hid (bitN hi lo (i + s) = 1) := hb
        have hb1 : (((bitN hi lo (i + s) : Nat) : Int) == 1) = true := by rw [hb]; rfl
        clear hb
        by_cases hi64 : i < 64
        · go_wp2
          go_roundw
          case rel => exact ⟨i + 1, by omega, by go_num, by rw [or_pow (mLo_lt _ _ _ _) hi64]; exact hm2.low hi64 HB.out⟩
          case measure => simp [intOf]; omega
        · go_wp2
          go_roundw
          case rel => exact ⟨i + 1, by omega, by go_num, by rw [or_pow (mHi_lt h l) (by omega)]; exact hm2.high (by omega) HB.out⟩
          case measure => simp [intOf]; omega
      · have hb0 : bitN hi lo (i + s) = 0 := by have : bitN hi lo (i + s) < 2 := Nat.mod_lt _ (by decide); omega
        have HB : Hid (bitN hi lo (i + s) = 0) := hb0
        have hb1 : (((bitN hi lo (i + s) : Nat) : Int) == 1) = false := by rw [hb0]; rfl
        clear hb hb0
        go_wp2
        go_roundw
        case rel => exact ⟨i + 1, by omega, by go_num, hm2.skip HB.out⟩
        case measure => simp [intOf]; omega
    · have HE : Hid (mLo hi lo s i = gLo hi lo s ∧ mHi hi lo s i = gHi hi lo s) := m_end (i := i) h l hs (by omega)
      by_cases hi2 : i < 128
      · have hge : 128 ≤ i + s := by omega
        go_wp2
        exact bodyPost_ret (v := .agg #[.int .u64 (mHi hi lo s i), .int .u64 (mLo hi lo s i)]) (by simp [results, Yba.results8, go_sem, r0, r1]) rfl ⟨ret_eq (agg2 (by rw [HE.out.2]) (by rw [HE.out.1])), (hm.below.setCell (by simp) _).setCell (by simp) _⟩
      · go_wp2
        exact bodyPost_ret (v := .agg #[.int .u64 (mHi hi lo s i), .int .u64 (mLo hi lo s i)]) (by simp [results, Yba.results8, go_sem, r0, r1]) rfl ⟨ret_eq (agg2 (by rw [HE.out.2]) (by rw [HE.out.1])), (hm.below.setCell (by simp) _).setCell (by simp) _⟩

end Go.Proofs.Ybulkalma
