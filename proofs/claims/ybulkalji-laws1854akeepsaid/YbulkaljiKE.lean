import Derived.Test.YbulkaljiKF
namespace Go.Proofs.Ybulkalji
open Go.RowKit Go.Maps
set_option linter.unusedVariables false
set_option linter.unusedSimpArgs false

/-- The process's cells, as the law lays them. -/
def procC (B : Nat) : Obj := .cells #[.pointer none, .int .i64 9, .nilIface, .nilFunc, .nilFunc, .slice none 0 0, .slice none 0 0, .map (some B), .int .u64 0, .map none] 36 (0, 0)

/-- The head of the round that builds recording k. -/
structure BInv (w : World) (zs : Nat → Int) (ns : Nat → Nat) (k : Nat) (wr : World) : Prop where
  size : wr.heap.size = w.heap.size + 2 + 7 * k
  own : wr.ownsMap Yba.prog 31 Rp w.heap.size k (Dk (fun k => w.heap.size + 2 + 7 * k + 2) k)
  proc : wr.heap[w.heap.size + 1]? = some (procC w.heap.size)
  recs : ∀ j, j < k → Recd wr (w.heap.size + 2) j (zs j) (ns j)
  chans : ∀ j, j < k → wr.heap[w.heap.size + 2 + 7 * j]? = some (.map (chL (slV (w.heap.size + 2) j (ns j)) 0 4).toArray 4)
  below : Below w.heap.size w wr

def slW (h n s : Nat) : Value := .slice (some ⟨h + 3 + s, 0, none⟩) n n
def recW (h k : Nat) : Obj := .cells #[.int .u64 ((k : Int) + 1), .int .i64 9, .int .i64 0, .map (some h), .map (some (h + 1))] 43 (0, 0)

/-- Within it, the head of the round of sender s; h: the recording's first block. -/
structure SInv (wr : World) (h k : Nat) (z : Int) (n : Nat) (s : Nat) (ws : World) : Prop where
  size : ws.heap.size = h + 3 + s
  chan : ws.heap[h]? = some (.map (chL (slW h n) 0 s).toArray s)
  wait : ws.heap[h + 1]? = some (.map (wEs z s).toArray (wCnt z s))
  blk : ws.heap[h + 2]? = some (recW h k)
  row : ∀ j, j < s → ws.heap[h + 3 + j]? = some (.cells (rowL k n).toArray 3 (0, 0))
  below : Below h wr ws

theorem s_start (wr : World) (k : Nat) (z : Int) (n : Nat) : SInv wr wr.heap.size k z n 0 (((wr.alloc (.map #[] 0)).alloc (.map #[] 0)).alloc (recW wr.heap.size k)) := by
  have a1 := MapKept.heap_alloc wr (.map #[] 0)
  have a2 := MapKept.heap_alloc (wr.alloc (.map #[] 0)) (.map #[] 0)
  have a3 := MapKept.heap_alloc ((wr.alloc (.map #[] 0)).alloc (.map #[] 0)) (recW wr.heap.size k)
  simp only [World.size_alloc] at a1 a2 a3
  refine ⟨by simp, ?_, ?_, a3.1, fun j hj => by omega, (((Below.refl _ _).alloc (Nat.le_refl _) _).alloc (by simp) _).alloc (by simp; omega) _⟩
  · exact (a3.2 _ (by omega)).trans ((a2.2 _ (by omega)).trans a1.1)
  · exact (a3.2 _ (by omega)).trans a2.1

theorem wr_start (w : World) (zs : Nat → Int) (ns : Nat → Nat) : BInv w zs ns 0 ((w.alloc (.map #[] 0)).alloc (procC w.heap.size)) where
  size := by simp
  own := (World.ownsMap_made w _ _ _).alloc _
  proc := by have := (MapKept.heap_alloc (w.alloc (.map #[] 0)) (procC w.heap.size)).1; simpa using this
  recs := fun j hj => by omega
  chans := fun j hj => by omega
  below := ((Below.refl _ _).alloc (Nat.le_refl _) _).alloc (by simp) _

/-- .. behind the store into the set of waiting senders. -/
structure SMid (wr : World) (h k : Nat) (z : Int) (n : Nat) (s : Nat) (ws : World) : Prop where
  size : ws.heap.size = h + 3 + s
  chan : ws.heap[h]? = some (.map (chL (slW h n) 0 s).toArray s)
  wait : ws.heap[h + 1]? = some (.map (wEs z (s + 1)).toArray (wCnt z (s + 1)))
  blk : ws.heap[h + 2]? = some (recW h k)
  row : ∀ j, j < s → ws.heap[h + 3 + j]? = some (.cells (rowL k n).toArray 3 (0, 0))
  below : Below h wr ws

/-- .. in the loop that fills the new slice, t numbers laid. -/
structure FInv (wr : World) (h k : Nat) (z : Int) (n : Nat) (s t : Nat) (ws : World) : Prop where
  size : ws.heap.size = h + 3 + s + 1
  chan : ws.heap[h]? = some (.map (chL (slW h n) 0 s).toArray s)
  wait : ws.heap[h + 1]? = some (.map (wEs z (s + 1)).toArray (wCnt z (s + 1)))
  blk : ws.heap[h + 2]? = some (recW h k)
  row : ∀ j, j < s → ws.heap[h + 3 + j]? = some (.cells (rowL k n).toArray 3 (0, 0))
  below : Below h wr ws
  new : ∃ cur : Array Value, ws.heap[h + 3 + s]? = some (.cells cur 3 (0, 0)) ∧ cur.size = n ∧ ∀ j, j < t → cur[j]? = some (.int .i64 ((k : Int) * 10 + j))

def zer (n : Nat) : Array Value := madeCells #[.int .i64 0] n
theorem make_run {n : Nat} (hn : n ≤ 3) (W : World) : (Instr.makeSlice 30 (.int .i64 n) (.int .i64 n)).run Yba.prog W = .ok (.slice (some ⟨W.heap.size, 0, none⟩) n n) (W.alloc (.cells (zer n) 3)) := by
  obtain ⟨i0, hi, hz0, hz1, hz2⟩ := info_parts info3
  have := run_make (P := Yba.prog) W 30 3 i0 (.int .i64 0) Yba.underlying30 hi hz0 .i64 .i64 n n (by omega) (by omega) (by rw [hz2]; omega) (by omega)
  rw [this, hz1]
  simp [zer, Value.cells]

section
variable {wr ws w1 : World} {h k n s t : Nat} {z : Int}

theorem SInv.mid (i : SInv wr h k z n s ws) {v : Bool} (hv : wVal z s = some v) (hg : ws.grownBy w1 (some (h + 1))) (hs : w1.heap.size = ws.heap.size) (hw : w1.heap[h + 1]? = some (.map (wEs z (s + 1)).toArray (wCnt z (s + 1)))) : SMid wr h k z n s w1 := by
  have hz := i.size
  exact ⟨hs.trans i.size, (hg.block _ (by omega) (by simp)).trans i.chan, hw, (hg.block _ (by omega) (by simp)).trans i.blk, fun j hj => (hg.block _ (by omega) (by simp; omega)).trans (i.row j hj), i.below.grown hg (by omega) (fun j hj => by cases hj; omega)⟩

theorem SInv.mid_none (i : SInv wr h k z n s ws) (hv : wVal z s = none) : SMid wr h k z n s ws := by
  refine ⟨i.size, i.chan, ?_, i.blk, i.row, i.below⟩
  have := i.wait
  simpa [wEs, wCnt, hv] using this

theorem SMid.made (i : SMid wr h k z n s ws) : FInv wr h k z n s 0 (ws.alloc (.cells (zer n) 3)) := by
  have hz := i.size
  have a := MapKept.heap_alloc ws (.cells (zer n) 3)
  refine ⟨by simp; omega, (a.2 _ (by omega)).trans i.chan, (a.2 _ (by omega)).trans i.wait, (a.2 _ (by omega)).trans i.blk, fun j hj => (a.2 _ (by omega)).trans (i.row j hj), i.below.alloc (by omega) _, zer n, ?_, by simp [zer, size_madeCells], fun j hj => by omega⟩
  rw [← hz]
  exact a.1

theorem FInv.cell (i : FInv wr h k z n s t ws) (ht : t < n) : ∃ v, ws.cell? ⟨h + 3 + s, t, none⟩ = some v := by
  obtain ⟨cur, hb, hc, _⟩ := i.new
  exact ⟨cur[t], by rw [cell_of_block hb t]; simp [hc, ht]⟩

theorem FInv.frozen (i : FInv wr h k z n s t ws) : ws.frozen? ⟨h + 3 + s, t, none⟩ = false := by
  obtain ⟨cur, hb, hc, _⟩ := i.new
  simp [World.frozen?, hb]

theorem FInv.put (i : FInv wr h k z n s t ws) (ht : t < n) : FInv wr h k z n s (t + 1) (ws.setCell ⟨h + 3 + s, t, none⟩ (.int .i64 ((k : Int) * 10 + t))) := by
  obtain ⟨cur, hb, hc, hcu⟩ := i.new
  have o := fun j (hj : j ≠ h + 3 + s) => heap_setCell_other ws ⟨h + 3 + s, t, none⟩ j (.int .i64 ((k : Int) * 10 + t)) hj
  refine ⟨by simpa using i.size, (o _ (by omega)).trans i.chan, (o _ (by omega)).trans i.wait, (o _ (by omega)).trans i.blk, fun j hj => (o _ (by omega)).trans (i.row j hj), i.below.setCell (by simp; omega) _, _, heap_setCell_same ws _ t cur 3 _ hb, by simpa using hc, fun j hj => ?_⟩
  by_cases hjt : j = t
  · subst hjt
    simp [hc, ht]
  · have : t ≠ j := fun e => hjt e.symm
    rw [Array.getElem?_setIfInBounds_ne this]
    exact hcu j (by omega)

theorem FInv.full (i : FInv wr h k z n s n ws) : ws.heap[h + 3 + s]? = some (.cells (rowL k n).toArray 3 (0, 0)) := by
  obtain ⟨cur, hb, hc, hcu⟩ := i.new
  have : cur = (rowL k n).toArray := by
    apply Array.ext_getElem?
    intro j
    by_cases hj : j < n
    · rw [hcu j hj]
      simp [rowL, hj]
    · rw [Array.getElem?_eq_none (by omega), Array.getElem?_eq_none (by simp [rowL]; omega)]
  rw [hb, this]

theorem FInv.next (i : FInv wr h k z n s n ws) (hg : ws.grownBy w1 (some h)) (hs : w1.heap.size = ws.heap.size) (hc : w1.heap[h]? = some (.map (chL (slW h n) 0 (s + 1)).toArray (s + 1))) : SInv wr h k z n (s + 1) w1 := by
  have hz := i.size
  refine ⟨by omega, hc, (hg.block _ (by omega) (by simp)).trans i.wait, (hg.block _ (by omega) (by simp)).trans i.blk, fun j hj => ?_, i.below.grown hg (by omega) (fun j hj => by cases hj; omega)⟩
  by_cases hjs : j = s
  · subst hjs
    exact (hg.block _ (by omega) (by simp; omega)).trans i.full
  · exact (hg.block _ (by omega) (by simp; omega)).trans (i.row j (by omega))
end

theorem below_grown {w w' : World} (h : Below w.heap.size w w') : w.grownBy w' none := ⟨h.os, h.tape, h.output, h.size, fun k hk _ => h.block k hk⟩
theorem turned_size {w w' : World} {b : Nat} (h : w.mapTurned w' b) : w'.heap.size = w.heap.size := by
  obtain ⟨_, _, _, _, _, rfl⟩ := h
  simp [ChangeMaps.setBlock]
theorem recC_eq (H k : Nat) : recC H k = recW (H + 7 * k) k := by simp [recC, recW]

theorem BInv.next {w wA ws w5 : World} {zs : Nat → Int} {ns : Nat → Nat} {k : Nat} (i : BInv w zs ns k wA) (hs : SInv wA wA.heap.size k (zs k) (ns k) 4 ws)
    (own : w5.ownsMap Yba.prog 31 Rp w.heap.size (k + 1) ((Dk (fun k => w.heap.size + 2 + 7 * k + 2) k).put (kL k) (.lit (.int .u64 ((wA.heap.size + 1 + 1 : Nat) : Int))))) (ht : ws.mapTurned w5 w.heap.size) : BInv w zs ns (k + 1) w5 := by
  have hsz := i.size
  have g1 : wA.grownBy ws none := below_grown hs.below
  have g2 : ws.grownBy w5 (some w.heap.size) := ht.grown
  have hz := hs.size
  have gg : wA.grownBy w5 (some w.heap.size) := (g1.but _).trans g2
  have h5 := turned_size ht
  refine ⟨by omega, ?_, (gg.block _ (by omega) (by simp)).trans i.proc, fun j hj => ?_, fun j hj => ?_, ?_⟩
  · rw [show ((wA.heap.size + 1 + 1 : Nat) : Int) = ((w.heap.size + 2 + 7 * k + 2 : Nat) : Int) from by omega] at own
    exact own
  · by_cases hjk : j = k
    · subst hjk
      refine ⟨?_, ?_, fun s hs4 => ?_⟩
      · have := (g2.block _ (by omega) (by simp; omega)).trans hs.wait
        rw [hsz] at this
        exact this
      · have := (g2.block _ (by omega) (by simp; omega)).trans hs.blk
        rw [hsz] at this
        rw [recC_eq]
        exact this
      · have := (g2.block _ (by omega) (by simp; omega)).trans (hs.row s hs4)
        rw [hsz] at this
        exact this
    · exact (i.recs j (by omega)).kept gg (fun q hq => by cases hq; omega)
  · by_cases hjk : j = k
    · subst hjk
      have := (g2.block _ (by omega) (by simp; omega)).trans hs.chan
      rw [hsz] at this
      exact this
    · exact (gg.block _ (by omega) (by simp; omega)).trans (i.chans j (by omega))
  · exact i.below.grown gg (by omega) (fun q hq => by cases hq; omega)

theorem bit_cases (z : Int) (j : Nat) : (bits BinOp.and IntKind.u8 (z / 2 ^ j) 1 == 1) = true ∧ wVal z j = some true ∨ (bits BinOp.and IntKind.u8 (z / 2 ^ j) 1 == 1) = false ∧ (bits BinOp.and IntKind.u8 (z / 2 ^ (j + 4)) 1 == 1) = true ∧ wVal z j = some false
    ∨ (bits BinOp.and IntKind.u8 (z / 2 ^ j) 1 == 1) = false ∧ (bits BinOp.and IntKind.u8 (z / 2 ^ (j + 4)) 1 == 1) = false ∧ wVal z j = none := by
  unfold wVal bitB
  cases (bits BinOp.and IntKind.u8 (z / 2 ^ j) 1 == 1) <;> cases (bits BinOp.and IntKind.u8 (z / 2 ^ (j + 4)) 1 == 1) <;> simp

/-- zzs1854aprior answers ns k at k, whatever was made above. -/
def PriorSaid (a3 : Option Addr) (len3 cap3 : Nat) (ns : Nat → Nat) (w : World) : Prop :=
  ∀ (k : Nat) (wr : World), Below w.heap.size w wr → Calls Yba.prog 5 #[.slice a3 len3 cap3, .int .i64 k] wr fun e w' => e = .returned (.int .i64 (ns k)) ∧ w' = wr

set_option maxRecDepth 100000 in
set_option maxHeartbeats 2000000 in
theorem law_walk (fr : Int) (f : Nat) (m : Int) (b off len cap : Nat) (zs : Nat → Int) (a3 : Option Addr) (len3 cap3 : Nat) (ns : Nat → Nat) (w : World)
    (h0 : 0 ≤ fr) (h1 : fr ≤ 255) (hfr : fr % 5 = (f : Int)) (hlen : len ≤ 256) (hb : b < w.heap.size) (hc : ∀ j, j < len → w.cell? ⟨b, off + j, none⟩ = some (.int .u8 (zs j))) (hz : ∀ j, 0 ≤ zs j ∧ zs j ≤ 255)
    (hpr : PriorSaid a3 len3 cap3 ns w) (hn : ∀ k, ns k ≤ 3) :
    Calls Yba.prog 3 #[.int .u8 fr, .int .i64 m, .slice (some ⟨b, off, none⟩) len cap, .slice a3 len3 cap3] w fun e w' => e = .returned (.bool true) ∧ Below w.heap.size w w' := by
  have hmm := @run_makeMap Yba.prog
  have HFR : Hid (fr % 5 = (f : Int)) := hfr
  clear hfr
  go_enter Yba.func3, Yba.ntmps3
  go_wp2_with fail
  go_loopw [11] (fun i wr => ∃ k : Nat, k ≤ len ∧ i = .int .i64 k ∧ BInv w zs ns k wr) (fun i _ => len - (intOf i).toNat)
  case atStart => exact ⟨0, Nat.zero_le _, rfl, wr_start w zs ns⟩
  case round =>
    obtain ⟨wA, hwA⟩ : ∃ x, x = wr := ⟨wr, rfl⟩
    subst hwA
    obtain ⟨k, hk, rfl, hinv⟩ := hrel
    by_cases hlt : k < len
    · have hcell : wA.cell? ⟨b, off + k, none⟩ = some (.int .u8 (zs k)) := (hinv.below.cell (by exact hb)).trans (hc k hlt)
      go_wp2_with fail
      refine (hpr k _ ?_).mono ?_
      · exact ((hinv.below.alloc (by have := hinv.size; omega) _).alloc (by have := hinv.size; simp; omega) _).alloc (by have := hinv.size; simp; omega) _
      rintro e w' ⟨rfl, rfl⟩
      go_wp2_with fail
      go_loopw [15] (fun s ws => ∃ j : Nat, j ≤ 4 ∧ s = .int .i64 j ∧ SInv wA wA.heap.size k (zs k) (ns k) j ws) (fun s _ => 4 - (intOf s).toNat)
      case atStart => exact ⟨0, by omega, rfl, s_start wA k (zs k) (ns k)⟩
      case round =>
        obtain ⟨ws, hws⟩ : ∃ x, x = wr := ⟨wr, rfl⟩
        subst hws
        obtain ⟨j, hj, rfl, hs⟩ := hrel
        by_cases hj4 : j < 4
        · have c4 : ws.cell? ⟨wA.heap.size + 1 + 1, 4, none⟩ = some (.map (some (wA.heap.size + 1))) := (cell_of_block hs.blk 4).trans rfl
          have c3 : ws.cell? ⟨wA.heap.size + 1 + 1, 3, none⟩ = some (.map (some wA.heap.size)) := (cell_of_block hs.blk 3).trans rfl
          have hzk := hz k
          have hnk := hn k
          have hmk := fun W => make_run (hn k) W
          have hbit : (bits BinOp.and IntKind.u8 (zs k / 2 ^ j) 1 == 1) = true ∧ wVal (zs k) j = some true ∨ (bits BinOp.and IntKind.u8 (zs k / 2 ^ j) 1 == 1) = false ∧ (bits BinOp.and IntKind.u8 (zs k / 2 ^ (j + 4)) 1 == 1) = true ∧ wVal (zs k) j = some false
              ∨ (bits BinOp.and IntKind.u8 (zs k / 2 ^ j) 1 == 1) = false ∧ (bits BinOp.and IntKind.u8 (zs k / 2 ^ (j + 4)) 1 == 1) = false ∧ wVal (zs k) j = none := bit_cases (zs k) j
          have hsz := hs.size
          have HSZ : Hid (ws.heap.size = wA.heap.size + 3 + j) := hsz
          clear hsz
          rcases hbit with ⟨b1, hv⟩ | ⟨b1, b2, hv⟩ | ⟨b1, b2, hv⟩
          · have hp := put_wait (zs k) j true hs.wait hv
            have HV : Hid (wVal (zs k) j = some true) := hv
            clear hv
            go_wp2_with (first
              | (at_mapUpdate; refine wpList_update_raw _ rfl _ _ _ 41 rfl (wA.heap.size + 1) _ _ rfl rfl rfl _ _ hs.wait hp ?_; intro w1 g1 z1 b1; have hmid := hs.mid HV.out g1 z1 b1)
              | go_in)
            go_loopw [17] (fun t wf => ∃ q : Nat, q ≤ ns k ∧ t = .int .i64 q ∧ FInv wA wA.heap.size k (zs k) (ns k) j q wf) (fun t _ => ns k - (intOf t).toNat)
            case atStart => exact ⟨0, by omega, rfl, hmid.made⟩
            case round =>
              obtain ⟨wf, hwf⟩ : ∃ x, x = wr := ⟨wr, rfl⟩
              subst hwf
              obtain ⟨q, hq, rfl, hF⟩ := hrel
              by_cases hqn : q < ns k
              · obtain ⟨v, hv⟩ := hF.cell hqn
                have hfz := hF.frozen
                rw [← HSZ.out] at hv hfz
                go_wp2
                go_roundw
                case rel => exact ⟨q + 1, by omega, by go_num, by have := hF.put hqn; rw [← HSZ.out] at this; exact this⟩
                case measure => simp [intOf]; omega
              · obtain rfl : q = ns k := by omega
                have hput := put_ch_new (slW wA.heap.size (ns k)) j hF.chan
                have e : slW wA.heap.size (ns k) j = .slice (some ⟨ws.heap.size, 0, none⟩) (ns k) (ns k) := by unfold slW; rw [HSZ.out]
                rw [e] at hput
                unfold chK at hput
                have c3f : wf.cell? ⟨wA.heap.size + 1 + 1, 3, none⟩ = some (.map (some wA.heap.size)) := (cell_of_block hF.blk 3).trans rfl
                clear e
                go_wp2_with (first
                  | (at_mapUpdate; refine wpList_update_raw _ rfl _ _ _ 38 rfl wA.heap.size _ _ rfl rfl rfl _ _ hF.chan hput ?_; intro w4 g4 z4 b4)
                  | go_in)
                go_roundw
                case rel => exact ⟨j + 1, by omega, by go_num, hF.next g4 z4 b4⟩
                case measure => simp [intOf]; omega
          · have hp := put_wait (zs k) j false hs.wait hv
            have HV : Hid (wVal (zs k) j = some false) := hv
            clear hv
            go_wp2_with (first
              | (at_mapUpdate; refine wpList_update_raw _ rfl _ _ _ 41 rfl (wA.heap.size + 1) _ _ rfl rfl rfl _ _ hs.wait hp ?_; intro w1 g1 z1 b1; have hmid := hs.mid HV.out g1 z1 b1)
              | go_in)
            go_loopw [17] (fun t wf => ∃ q : Nat, q ≤ ns k ∧ t = .int .i64 q ∧ FInv wA wA.heap.size k (zs k) (ns k) j q wf) (fun t _ => ns k - (intOf t).toNat)
            case atStart => exact ⟨0, by omega, rfl, hmid.made⟩
            case round =>
              obtain ⟨wf, hwf⟩ : ∃ x, x = wr := ⟨wr, rfl⟩
              subst hwf
              obtain ⟨q, hq, rfl, hF⟩ := hrel
              by_cases hqn : q < ns k
              · obtain ⟨v, hv⟩ := hF.cell hqn
                have hfz := hF.frozen
                rw [← HSZ.out] at hv hfz
                go_wp2
                go_roundw
                case rel => exact ⟨q + 1, by omega, by go_num, by have := hF.put hqn; rw [← HSZ.out] at this; exact this⟩
                case measure => simp [intOf]; omega
              · obtain rfl : q = ns k := by omega
                have hput := put_ch_new (slW wA.heap.size (ns k)) j hF.chan
                have e : slW wA.heap.size (ns k) j = .slice (some ⟨ws.heap.size, 0, none⟩) (ns k) (ns k) := by unfold slW; rw [HSZ.out]
                rw [e] at hput
                unfold chK at hput
                have c3f : wf.cell? ⟨wA.heap.size + 1 + 1, 3, none⟩ = some (.map (some wA.heap.size)) := (cell_of_block hF.blk 3).trans rfl
                clear e
                go_wp2_with (first
                  | (at_mapUpdate; refine wpList_update_raw _ rfl _ _ _ 38 rfl wA.heap.size _ _ rfl rfl rfl _ _ hF.chan hput ?_; intro w4 g4 z4 b4)
                  | go_in)
                go_roundw
                case rel => exact ⟨j + 1, by omega, by go_num, hF.next g4 z4 b4⟩
                case measure => simp [intOf]; omega
          · have hmid := hs.mid_none hv
            clear hv
            go_wp2_with fail
            go_loopw [17] (fun t wf => ∃ q : Nat, q ≤ ns k ∧ t = .int .i64 q ∧ FInv wA wA.heap.size k (zs k) (ns k) j q wf) (fun t _ => ns k - (intOf t).toNat)
            case atStart => exact ⟨0, by omega, rfl, hmid.made⟩
            case round =>
              obtain ⟨wf, hwf⟩ : ∃ x, x = wr := ⟨wr, rfl⟩
              subst hwf
              obtain ⟨q, hq, rfl, hF⟩ := hrel
              by_cases hqn : q < ns k
              · obtain ⟨v, hv⟩ := hF.cell hqn
                have hfz := hF.frozen
                rw [← HSZ.out] at hv hfz
                go_wp2
                go_roundw
                case rel => exact ⟨q + 1, by omega, by go_num, by have := hF.put hqn; rw [← HSZ.out] at this; exact this⟩
                case measure => simp [intOf]; omega
              · obtain rfl : q = ns k := by omega
                have hput := put_ch_new (slW wA.heap.size (ns k)) j hF.chan
                have e : slW wA.heap.size (ns k) j = .slice (some ⟨ws.heap.size, 0, none⟩) (ns k) (ns k) := by unfold slW; rw [HSZ.out]
                rw [e] at hput
                unfold chK at hput
                have c3f : wf.cell? ⟨wA.heap.size + 1 + 1, 3, none⟩ = some (.map (some wA.heap.size)) := (cell_of_block hF.blk 3).trans rfl
                clear e
                go_wp2_with (first
                  | (at_mapUpdate; refine wpList_update_raw _ rfl _ _ _ 38 rfl wA.heap.size _ _ rfl rfl rfl _ _ hF.chan hput ?_; intro w4 g4 z4 b4)
                  | go_in)
                go_roundw
                case rel => exact ⟨j + 1, by omega, by go_num, hF.next g4 z4 b4⟩
                case measure => simp [intOf]; omega
        · obtain rfl : j = 4 := by omega
          have hsz := hinv.size
          have HSZ : Hid (wA.heap.size = w.heap.size + 2 + 7 * k) := hsz
          have g1 : wA.grownBy ws none := below_grown hs.below
          have c7 : ws.cell? ⟨w.heap.size + 1, 7, none⟩ = some (.map (some w.heap.size)) := (cell_of_block ((g1.block _ (by omega) (by simp)).trans hinv.proc) 7).trans rfl
          have hown := hinv.own.kept g1 (by simp)
          clear hsz
          go_wp2_with (first
            | (at_mapUpdate; refine wpList_mapUpdate_in _ rfl _ _ _ 24 rfl 31 37 law31 Yba.underlying24 Rp w.heap.size k _ rfl hown (by unfold maxLen; omega) _ _ (kL k) rfl rfl (keyOf_int_mk Yba.underlying31 (WalkArith.wf_u64 (by omega))) _ [] (Rp_mk _) ?_; intro w5 own5 t5)
            | go_in)
          go_roundw
          case rel => exact ⟨k + 1, by omega, by go_num, hinv.next hs own5 t5⟩
          case measure => simp [intOf]; omega
    · obtain rfl : k = len := by omega
      go_wp2_with fail
      rw [HFR.out]
      have hsz := hinv.size
      refine (keep_any wA (w.heap.size + 1) w.heap.size (w.heap.size + 2) k zs ns f m (by have := HFR.out; omega) (fun j _ => hn j) ((cell_of_block hinv.proc 1).trans rfl) ((cell_of_block hinv.proc 7).trans rfl) hinv.own (by omega) (by omega) (by omega) hinv.recs (fun j hj => ?_)).mono ?_
      · unfold ChanSt
        rw [if_neg (by simp)]
        exact hinv.chans j hj
      rintro e wK ⟨rfl, hbK, hownK, hrecK, hchK⟩
      have hbel : Below w.heap.size w wK := hinv.below.trans (hbK.mono (by omega))
      have hprocK : wK.heap[w.heap.size + 1]? = some (procC w.heap.size) := (hbK.block _ (by omega)).trans hinv.proc
      generalize wA.heap.size + 2 = NN at hchK
      have c7K : wK.cell? ⟨w.heap.size + 1, 7, none⟩ = some (.map (some w.heap.size)) := (cell_of_block hprocK 7).trans rfl
      have hlenK := fun ty => hownK.len (t := 24) (e := 37) Yba.underlying24 ty
      rw [(Dk_tidy _ k).2] at hlenK
      clear hbK hinv hsz HFR hprocK
      go_wp2_with fail
      go_loop [18] (fun i => ∃ q : Nat, q ≤ k ∧ i = .int .i64 q) (fun i => k - (intOf i).toNat)
      case atStart => exact ⟨0, Nat.zero_le _, rfl⟩
      case round =>
        obtain ⟨q, hq, rfl⟩ := hrel
        by_cases hqk : q < k
        · have hcell : wK.cell? ⟨b, off + q, none⟩ = some (.int .u8 (zs q)) := (hbel.cell (by exact hb)).trans (hc q hqk)
          have hlr := look_rec hownK q hqk hlen
          have hR := hrecK q hqk
          have hC := hchK q hqk
          have hlen4 : ∀ ty, (Builtin.len_ #[38] ty #[.map (some (w.heap.size + 2 + 7 * q))]).run Yba.prog wK = .ok (.int .i64 4) wK := fun ty => by
            unfold ChanSt at hC
            split at hC
            · obtain ⟨v, hb', _⟩ := hC
              exact (len_map Yba.underlying38 hb' ty).trans (by simp [chL])
            · exact (len_map Yba.underlying38 hC ty).trans (by simp [chL])
          have c3 : wK.cell? ⟨w.heap.size + 2 + 7 * q + 2, 3, none⟩ = some (.map (some (w.heap.size + 2 + 7 * q))) := (cell_of_block hR.blk 3).trans rfl
          have c4 : wK.cell? ⟨w.heap.size + 2 + 7 * q + 2, 4, none⟩ = some (.map (some (w.heap.size + 2 + 7 * q + 1))) := (cell_of_block hR.blk 4).trans rfl
          go_wp2_with (first
            | (at_lookup; refine wpList_lookup_raw _ rfl _ _ 24 false rfl _ _ _ rfl rfl hlr ?_)
            | (go_at_call 5; refine (hpr q _ hbel).mono ?_; rintro e wK ⟨rfl, rfl⟩)
            | go_in)
          go_loop [22, 23] (fun c s => ∃ j : Nat, j ≤ 4 ∧ s = .int .i64 j ∧ c = .int .i64 (wCnt (zs q) j)) (fun _ s => 4 - (intOf s).toNat)
          case atStart => exact ⟨0, by omega, rfl, rfl⟩
          case round =>
            obtain ⟨j, hj, rfl, rfl⟩ := hrel
            by_cases hj4 : j < 4
            · have hcb := wCnt_le (zs q) j
              obtain ⟨g, cp, hlc, hcells, hlast⟩ := chan_at hC hR j hj4
              have hnq := hn q
              have hzq := hz q
              clear hlenK hlr hlen4 hcell c7K
              by_cases hsf : j = f <;> rcases bit_cases (zs q) j with ⟨b1, hv⟩ | ⟨b1, b2, hv⟩ | ⟨b1, b2, hv⟩
              · have hlw : (Instr.lookup 41 (.map (some (w.heap.size + 2 + 7 * q + 1))) (.int .i64 j) true).run Yba.prog wK = .ok (.tuple #[.bool true, .bool true]) wK := by
                  have := look_wait (zs q) j 4 _ true hR.wait hj4
                  rw [hv] at this
                  exact this
                have HC : Hid (wCnt (zs q) (j + 1) = wCnt (zs q) j + 1) := by simp only [Hid, wCnt, hv]; rfl
                clear hv
                rw [if_pos ⟨hsf, b1⟩] at hlc
                have hl := hlast ⟨hsf, b1⟩
                clear hlast
                have hjf : ((j : Int) == (f : Int)) = true := by simp [hsf]
                clear hsf
                go_wp2_with (first
                  | (at_lookup; refine wpList_lookup_raw _ rfl _ _ 41 true rfl _ _ _ rfl rfl hlw ?_)
                  | (at_lookup; refine wpList_lookup_raw _ rfl _ _ 38 true rfl _ _ _ rfl rfl hlc ?_)
                  | go_in)
                go_loop [31] (fun t => ∃ i : Nat, i ≤ ns q ∧ t = .int .i64 i) (fun t => ns q - (intOf t).toNat)
                case atStart => exact ⟨0, Nat.zero_le _, rfl⟩
                case round =>
                  obtain ⟨i, hi, rfl⟩ := hrel
                  by_cases hin : i < ns q
                  · have hce := hcells i hin
                    go_wp2
                    go_round
                    case rel => exact ⟨i + 1, by omega, by go_num⟩
                    case measure => simp [intOf]; omega
                  · obtain rfl : i = ns q := by omega
                    go_wp2
                    go_round
                    case rel => exact ⟨j + 1, by omega, by go_num, by rw [HC.out] <;> go_num⟩
                    case measure => simp [intOf]; omega
              · have hlw : (Instr.lookup 41 (.map (some (w.heap.size + 2 + 7 * q + 1))) (.int .i64 j) true).run Yba.prog wK = .ok (.tuple #[.bool false, .bool true]) wK := by
                  have := look_wait (zs q) j 4 _ true hR.wait hj4
                  rw [hv] at this
                  exact this
                have HC : Hid (wCnt (zs q) (j + 1) = wCnt (zs q) j + 1) := by simp only [Hid, wCnt, hv]; rfl
                clear hv
                rw [if_neg (fun h => by have := h.2; unfold bitB at this; rw [b1] at this; cases this)] at hlc
                clear hlast
                have hjf : ((j : Int) == (f : Int)) = true := by simp [hsf]
                clear hsf
                go_wp2_with (first
                  | (at_lookup; refine wpList_lookup_raw _ rfl _ _ 41 true rfl _ _ _ rfl rfl hlw ?_)
                  | (at_lookup; refine wpList_lookup_raw _ rfl _ _ 38 true rfl _ _ _ rfl rfl hlc ?_)
                  | go_in)
                go_loop [31] (fun t => ∃ i : Nat, i ≤ ns q ∧ t = .int .i64 i) (fun t => ns q - (intOf t).toNat)
                case atStart => exact ⟨0, Nat.zero_le _, rfl⟩
                case round =>
                  obtain ⟨i, hi, rfl⟩ := hrel
                  by_cases hin : i < ns q
                  · have hce := hcells i hin
                    go_wp2
                    go_round
                    case rel => exact ⟨i + 1, by omega, by go_num⟩
                    case measure => simp [intOf]; omega
                  · obtain rfl : i = ns q := by omega
                    go_wp2
                    go_round
                    case rel => exact ⟨j + 1, by omega, by go_num, by rw [HC.out] <;> go_num⟩
                    case measure => simp [intOf]; omega
              · have hlw : (Instr.lookup 41 (.map (some (w.heap.size + 2 + 7 * q + 1))) (.int .i64 j) true).run Yba.prog wK = .ok (.tuple #[.bool false, .bool false]) wK := by
                  have := look_wait (zs q) j 4 _ true hR.wait hj4
                  rw [hv] at this
                  exact this
                have HC : Hid (wCnt (zs q) (j + 1) = wCnt (zs q) j) := by simp only [Hid, wCnt, hv]; rfl
                clear hv
                rw [if_neg (fun h => by have := h.2; unfold bitB at this; rw [b1] at this; cases this)] at hlc
                clear hlast
                have hjf : ((j : Int) == (f : Int)) = true := by simp [hsf]
                clear hsf
                go_wp2_with (first
                  | (at_lookup; refine wpList_lookup_raw _ rfl _ _ 41 true rfl _ _ _ rfl rfl hlw ?_)
                  | (at_lookup; refine wpList_lookup_raw _ rfl _ _ 38 true rfl _ _ _ rfl rfl hlc ?_)
                  | go_in)
                go_loop [31] (fun t => ∃ i : Nat, i ≤ ns q ∧ t = .int .i64 i) (fun t => ns q - (intOf t).toNat)
                case atStart => exact ⟨0, Nat.zero_le _, rfl⟩
                case round =>
                  obtain ⟨i, hi, rfl⟩ := hrel
                  by_cases hin : i < ns q
                  · have hce := hcells i hin
                    go_wp2
                    go_round
                    case rel => exact ⟨i + 1, by omega, by go_num⟩
                    case measure => simp [intOf]; omega
                  · obtain rfl : i = ns q := by omega
                    go_wp2
                    go_round
                    case rel => exact ⟨j + 1, by omega, by go_num, by rw [HC.out] <;> go_num⟩
                    case measure => simp [intOf]; omega
              · have hlw : (Instr.lookup 41 (.map (some (w.heap.size + 2 + 7 * q + 1))) (.int .i64 j) true).run Yba.prog wK = .ok (.tuple #[.bool true, .bool true]) wK := by
                  have := look_wait (zs q) j 4 _ true hR.wait hj4
                  rw [hv] at this
                  exact this
                have HC : Hid (wCnt (zs q) (j + 1) = wCnt (zs q) j + 1) := by simp only [Hid, wCnt, hv]; rfl
                clear hv
                rw [if_neg (fun h => hsf h.1)] at hlc
                clear hlast
                have hjf : ((j : Int) == (f : Int)) = false := by simp; omega
                clear hsf
                go_wp2_with (first
                  | (at_lookup; refine wpList_lookup_raw _ rfl _ _ 41 true rfl _ _ _ rfl rfl hlw ?_)
                  | (at_lookup; refine wpList_lookup_raw _ rfl _ _ 38 true rfl _ _ _ rfl rfl hlc ?_)
                  | go_in)
                go_loop [31] (fun t => ∃ i : Nat, i ≤ ns q ∧ t = .int .i64 i) (fun t => ns q - (intOf t).toNat)
                case atStart => exact ⟨0, Nat.zero_le _, rfl⟩
                case round =>
                  obtain ⟨i, hi, rfl⟩ := hrel
                  by_cases hin : i < ns q
                  · have hce := hcells i hin
                    go_wp2
                    go_round
                    case rel => exact ⟨i + 1, by omega, by go_num⟩
                    case measure => simp [intOf]; omega
                  · obtain rfl : i = ns q := by omega
                    go_wp2
                    go_round
                    case rel => exact ⟨j + 1, by omega, by go_num, by rw [HC.out] <;> go_num⟩
                    case measure => simp [intOf]; omega
              · have hlw : (Instr.lookup 41 (.map (some (w.heap.size + 2 + 7 * q + 1))) (.int .i64 j) true).run Yba.prog wK = .ok (.tuple #[.bool false, .bool true]) wK := by
                  have := look_wait (zs q) j 4 _ true hR.wait hj4
                  rw [hv] at this
                  exact this
                have HC : Hid (wCnt (zs q) (j + 1) = wCnt (zs q) j + 1) := by simp only [Hid, wCnt, hv]; rfl
                clear hv
                rw [if_neg (fun h => hsf h.1)] at hlc
                clear hlast
                have hjf : ((j : Int) == (f : Int)) = false := by simp; omega
                clear hsf
                go_wp2_with (first
                  | (at_lookup; refine wpList_lookup_raw _ rfl _ _ 41 true rfl _ _ _ rfl rfl hlw ?_)
                  | (at_lookup; refine wpList_lookup_raw _ rfl _ _ 38 true rfl _ _ _ rfl rfl hlc ?_)
                  | go_in)
                go_loop [31] (fun t => ∃ i : Nat, i ≤ ns q ∧ t = .int .i64 i) (fun t => ns q - (intOf t).toNat)
                case atStart => exact ⟨0, Nat.zero_le _, rfl⟩
                case round =>
                  obtain ⟨i, hi, rfl⟩ := hrel
                  by_cases hin : i < ns q
                  · have hce := hcells i hin
                    go_wp2
                    go_round
                    case rel => exact ⟨i + 1, by omega, by go_num⟩
                    case measure => simp [intOf]; omega
                  · obtain rfl : i = ns q := by omega
                    go_wp2
                    go_round
                    case rel => exact ⟨j + 1, by omega, by go_num, by rw [HC.out] <;> go_num⟩
                    case measure => simp [intOf]; omega
              · have hlw : (Instr.lookup 41 (.map (some (w.heap.size + 2 + 7 * q + 1))) (.int .i64 j) true).run Yba.prog wK = .ok (.tuple #[.bool false, .bool false]) wK := by
                  have := look_wait (zs q) j 4 _ true hR.wait hj4
                  rw [hv] at this
                  exact this
                have HC : Hid (wCnt (zs q) (j + 1) = wCnt (zs q) j) := by simp only [Hid, wCnt, hv]; rfl
                clear hv
                rw [if_neg (fun h => hsf h.1)] at hlc
                clear hlast
                have hjf : ((j : Int) == (f : Int)) = false := by simp; omega
                clear hsf
                go_wp2_with (first
                  | (at_lookup; refine wpList_lookup_raw _ rfl _ _ 41 true rfl _ _ _ rfl rfl hlw ?_)
                  | (at_lookup; refine wpList_lookup_raw _ rfl _ _ 38 true rfl _ _ _ rfl rfl hlc ?_)
                  | go_in)
                go_loop [31] (fun t => ∃ i : Nat, i ≤ ns q ∧ t = .int .i64 i) (fun t => ns q - (intOf t).toNat)
                case atStart => exact ⟨0, Nat.zero_le _, rfl⟩
                case round =>
                  obtain ⟨i, hi, rfl⟩ := hrel
                  by_cases hin : i < ns q
                  · have hce := hcells i hin
                    go_wp2
                    go_round
                    case rel => exact ⟨i + 1, by omega, by go_num⟩
                    case measure => simp [intOf]; omega
                  · obtain rfl : i = ns q := by omega
                    go_wp2
                    go_round
                    case rel => exact ⟨j + 1, by omega, by go_num, by rw [HC.out] <;> go_num⟩
                    case measure => simp [intOf]; omega
            · obtain rfl : j = 4 := by omega
              have hlenw : ∀ ty, (Builtin.len_ #[41] ty #[.map (some (w.heap.size + 2 + 7 * q + 1))]).run Yba.prog wK = .ok (.int .i64 (wCnt (zs q) 4)) wK := fun ty => (len_map Yba.underlying41 hR.wait ty).trans (by simp [wEs_len])
              go_wp2
              go_round
              case rel => exact ⟨q + 1, by omega, by go_num⟩
              case measure => simp [intOf]; omega
        · go_wp2
          go_ret
          exact ⟨rfl, hbel⟩

end Go.Proofs.Ybulkalji
