import Derived.Test.YbulkaljiKC
import Derived.Maps.AppendAt
import Derived.Deep.RegionHeld3
import Derived.Deep.RegionLawGrows
namespace Go.Proofs.Ybulkalji
open Go.RowKit Go.Maps
set_option linter.unusedVariables false
set_option linter.unusedSimpArgs false

/-- The numbers that the law lays into recording k's channels. -/
def rowL (k n : Nat) : List Value := (List.range n).map fun j => .int .i64 ((k * 10 + j : Nat) : Int)
def slV (H k n s : Nat) : Value := .slice (some ⟨H + 7 * k + 3 + s, 0, none⟩) n n
def recC (H k : Nat) : Obj := .cells #[.int .u64 ((k + 1 : Nat) : Int), .int .i64 9, .int .i64 0, .map (some (H + 7 * k)), .map (some (H + 7 * k + 1))] 43 (0, 0)
/-- Is the message kept on this recording? -/
def hit (z : Int) (f : Nat) : Bool := decide (f < 4) && bitB z f

/-- What of recording k never turns. -/
structure Recd (w : World) (H k : Nat) (z : Int) (n : Nat) : Prop where
  wait : w.heap[H + 7 * k + 1]? = some (.map (wEs z 4).toArray (wCnt z 4))
  blk : w.heap[H + 7 * k + 2]? = some (recC H k)
  row : ∀ s, s < 4 → w.heap[H + 7 * k + 3 + s]? = some (.cells (rowL k n).toArray 3 (0, 0))

/-- Recording k's channels; d: has the message come there? -/
def ChanSt (w : World) (N H k : Nat) (z : Int) (n f : Nat) (m : Int) (d : Bool) : Prop :=
  if d = true ∧ hit z f = true then ∃ v, w.heap[H + 7 * k]? = some (.map (chL (fun s => if s = f then v else slV H k n s) 0 4).toArray 4) ∧ w.ownsRow N 3 1 v (n + 1) (rowL k n ++ [.int .i64 m])
  else w.heap[H + 7 * k]? = some (.map (chL (slV H k n) 0 4).toArray 4)

theorem Recd.kept {w w' : World} {H k : Nat} {z : Int} {n : Nat} (h : Recd w H k z n) {row : Option Nat} (hg : w.grownBy w' row) (hr : ∀ j, row = some j → ¬ (H + 7 * k + 1 ≤ j ∧ j < H + 7 * k + 7)) : Recd w' H k z n := by
  have lt : ∀ {b : Nat} {o : Obj}, w.heap[b]? = some o → b < w.heap.size := fun h => (Array.getElem?_eq_some_iff.1 h).1
  refine ⟨(hg.block _ (lt h.wait) (fun e => hr _ e.symm (by omega))).trans h.wait, (hg.block _ (lt h.blk) (fun e => hr _ e.symm (by omega))).trans h.blk, fun s hs => (hg.block _ (lt (h.row s hs)) (fun e => hr _ e.symm (by omega))).trans (h.row s hs)⟩

theorem ChanSt.kept {w w' : World} {N H k : Nat} {z : Int} {n f : Nat} {m : Int} {d : Bool} (h : ChanSt w N H k z n f m d) {row : Option Nat} (hg : w.grownBy w' row) (hr : ∀ j, row = some j → j ≠ H + 7 * k ∧ j < N) : ChanSt w' N H k z n f m d := by
  have lt : ∀ {b : Nat} {o : Obj}, w.heap[b]? = some o → b < w.heap.size := fun h => (Array.getElem?_eq_some_iff.1 h).1
  unfold ChanSt at h ⊢
  split
  · rename_i hc
    rw [if_pos hc] at h
    obtain ⟨v, h1, h2⟩ := h
    refine ⟨v, (hg.block _ (lt h1) (fun e => (hr _ e.symm).1 rfl)).trans h1, h2.kept hg ?_⟩
    cases hv : v.ownBlock with
    | none => exact Or.inl rfl
    | some g =>
      refine Or.inr fun e => ?_
      have := h2.lt g hv
      have := (hr g e.symm).2
      omega
  · rename_i hc
    rw [if_neg hc] at h
    exact (hg.block _ (lt h) (fun e => (hr _ e.symm).1 rfl)).trans h


/-- What the iterator's step hands out is recording k's key and pointer. -/
theorem next_form {g : Nat → Nat} {K : Nat} {x : Int} {c : Option Addr} {kl : Lit} {y : DataW Unit} {yp : List MemPlace} (hh : Maps.has (Dk g K) kl = true) (hkey : keyOf Yba.prog 31 (.int .u64 x) = some kl)
    (hR : Rp (.pointer c) = some (y, yp)) (hat : ∀ zd, (Dk g K).atKey kl zd = y) : ∃ k, k < K ∧ kl = kL k ∧ x = ((k + 1 : Nat) : Int) ∧ c = some ⟨g k, 0, none⟩ := by
  obtain ⟨k, hk, rfl⟩ := Dk_has g kl K hh
  refine ⟨k, hk, rfl, ?_, ?_⟩
  · obtain ⟨x', h1, h2, _⟩ := Maps.keyOf_int_inv Yba.underlying31 hkey
    cases h1
    simp [kL] at h2
    omega
  · have := hat .nil
    rw [Dk_at g k _ K hk] at this
    match c, hR with
    | none, hR => simp [Rp] at hR; rw [← hR.1] at this; simp at this
    | some ⟨b, 0, none⟩, hR =>
      simp [Rp] at hR
      rw [← hR.1] at this
      simp at this
      have e : g k = b := by omega
      rw [e]
    | some ⟨b, o + 1, _⟩, hR => simp [Rp] at hR
    | some ⟨b, 0, some _⟩, hR => simp [Rp] at hR

theorem look_hit {w : World} {b : Nat} (z : Int) (f : Nat) (hb : w.heap[b]? = some (.map (wEs z 4).toArray (wCnt z 4))) :
    (Instr.lookup 41 (.map (some b)) (.int .i64 f) false).run Yba.prog w = .ok (.bool (hit z f)) w := by
  by_cases hf : f < 4
  · refine (look_wait z f 4 _ false hb hf).trans ?_
    simp only [hit, hf, decide_true, Bool.true_and, wVal]
    cases bitB z f
    · cases bitB z (f + 4) <;> rfl
    · rfl
  · refine (look_wait_out z f 4 _ hb hf).trans ?_
    simp [hit, hf]

theorem cell_of_block {w : World} {b : Nat} {cs : Array Value} {t : TypeId} {fr : Nat × Nat} (h : w.heap[b]? = some (.cells cs t fr)) (j : Nat) : w.cell? ⟨b, j, none⟩ = cs[j]? := by simp [World.cell?, h]

theorem info3 : (Yba.prog.info? 3).map (fun i => (i.zero, i.size, i.bytes)) = some (some (.int .i64 0), 1, 8) := by kernel_rfl

theorem upd_step {w2 : World} {H k n f : Nat} (hb : w2.heap[H + 7 * k]? = some (.map (chL (slV H k n) 0 4).toArray 4)) (hf : f < 4) (v : Value) :
    ∃ w3, (Instr.mapUpdate 38 (.map (some (H + 7 * k))) (.agg #[.int .i64 f, .int .i64 9]) v).run Yba.prog w2 = .ok () w3 ∧ w2.grownBy w3 (some (H + 7 * k)) ∧ w3.heap.size = w2.heap.size
      ∧ w3.heap[H + 7 * k]? = some (.map (chL (fun s => if s = f then v else slV H k n s) 0 4).toArray 4) := by
  obtain ⟨r1, r2, r3⟩ := grown_set (o' := .map (chL (fun s => if s = f then v else slV H k n s) 0 4).toArray 4) hb
  exact ⟨_, put_ch_old (slV H k n) f 4 4 v hb hf, r1, r2, r3⟩

theorem row_cells {W : World} {b k n : Nat} (h : W.heap[b]? = some (.cells (rowL k n).toArray 3 (0, 0))) : ∀ a, some (⟨b, 0, none⟩ : Addr) = some a → ∀ j u, (rowL k n)[j]? = some u → W.cell? (a.add j) = some u := by
  intro a ha j u hj
  cases ha
  have : (⟨b, 0, none⟩ : Addr).add j = ⟨b, j, none⟩ := by simp [Addr.add]; omega
  rw [this, cell_of_block h j]
  simpa using hj

theorem own_form {w : World} {base : Nat} {e : TypeId} {v : Value} {n : Nat} {xs : List Value} (h : w.ownsRow base e 1 v (n + 1) xs) : ∃ g cap, v = .slice (some ⟨g, 0, none⟩) (n + 1) cap := by
  rcases h.2 with ⟨_, h2⟩ | ⟨g, cap, cur, hv, _⟩
  · omega
  · exact ⟨g, cap, hv⟩

theorem cell_al {w1 : World} {a : Addr} {v : Value} (h : w1.cell? a = some v) (o : Obj) : (w1.alloc o).drew.cell? a = some v := by
  show (w1.alloc o).cell? a = some v
  rw [World.cell?_alloc_some _ _ _ (by rw [h]; rfl)]
  exact h

theorem rowL_len (k n : Nat) : (rowL k n).length = n := by simp [rowL]

theorem grown_al (w1 : World) (o : Obj) : w1.grownBy (w1.alloc o).drew none := ⟨rfl, rfl, rfl, by simp, fun i hi _ => (MapKept.heap_alloc w1 o).2 i hi⟩

/-- What holds at the head of each round of keep's loop, beside the iterator. -/
structure KInv (w : World) (H K : Nat) (zs : Nat → Int) (ns : Nat → Nat) (f : Nat) (m : Int) (left : Lit → Bool) (wr : World) : Prop where
  keys : ∀ kl, left kl = true → Maps.has (Dk (fun k => H + 7 * k + 2) K) kl = true
  recs : ∀ k, k < K → Recd wr H k (zs k) (ns k)
  chans : ∀ k, k < K → ChanSt wr (w.heap.size + 2) H k (zs k) (ns k) f m (!left (kL k))
  below : Below H w wr
  size : w.heap.size + 2 ≤ wr.heap.size
  ch : wr.heap[w.heap.size]? = some (.cells #[.int .i64 f, .int .i64 9] 47 (0, 0))

section
variable {w wr w1 : World} {H K : Nat} {zs : Nat → Int} {ns : Nat → Nat} {f : Nat} {m : Int} {left : Lit → Bool} {k : Nat}

theorem left_same (left : Lit → Bool) (k : Nat) : (left (kL k) && !(kL k).sameKey (kL k)) = false := by rw [WideAt.sameKey_self (kL_key k)]; simp
theorem left_other (left : Lit → Bool) {j k : Nat} (h : j ≠ k) : (left (kL j) && !(kL j).sameKey (kL k)) = left (kL j) := by rw [sameKey_ne (fun e => h (kL_inj e))]; simp

/-- The iterator's step turns nothing of it. -/
theorem KInv.step (h : KInv w H K zs ns f m left wr) (hN : H + 7 * K ≤ w.heap.size) (hg : wr.grownBy w1 (some (w.heap.size + 1))) : KInv w H K zs ns f m left w1 where
  keys := h.keys
  recs := fun k hk => (h.recs k hk).kept hg (fun j hj => by cases hj; omega)
  chans := fun k hk => (h.chans k hk).kept hg (fun j hj => by cases hj; omega)
  below := h.below.grown hg (by have := h.size; omega) (fun j hj => by cases hj; omega)
  size := Nat.le_trans h.size hg.size
  ch := (hg.block _ (by have := h.size; omega) (by simp)).trans h.ch

/-- A recording that keeps nothing. -/
theorem KInv.pass (h : KInv w H K zs ns f m left w1) (hh : hit (zs k) f = false) : KInv w H K zs ns f m (fun z => left z && !z.sameKey (kL k)) w1 where
  keys := fun kl hkl => h.keys kl (by simp at hkl; exact hkl.1)
  recs := h.recs
  chans := fun j hj => by
    by_cases hjk : j = k
    · subst hjk
      have := h.chans j hj
      unfold ChanSt at this ⊢
      rw [hh] at this ⊢
      simpa using this
    · simp only [left_other left hjk]; exact h.chans j hj
  below := h.below
  size := h.size
  ch := h.ch

/-- A recording that keeps the message. -/
theorem KInv.put {w2 w3 : World} {o : Obj} {v : Value} (h : KInv w H K zs ns f m left w1) (hN : H + 7 * K ≤ w.heap.size) (hk : k < K) (hh : hit (zs k) f = true) (hgrow : (w1.alloc o).drew.grownBy w2 none) (hg3 : w2.grownBy w3 (some (H + 7 * k)))
    (hown : w2.ownsRow (w1.alloc o).drew.heap.size 3 1 v (ns k + 1) (rowL k (ns k) ++ [.int .i64 m])) (hb3 : w3.heap[H + 7 * k]? = some (.map (chL (fun s => if s = f then v else slV H k (ns k) s) 0 4).toArray 4)) :
    KInv w H K zs ns f m (fun z => left z && !z.sameKey (kL k)) w3 := by
  have ha := grown_al w1 o
  have hb : w1.grownBy w2 none := ha.trans hgrow
  have hc : w1.grownBy w3 (some (H + 7 * k)) := (hb.but _).trans hg3
  have hsz := h.size
  have e1 : (w1.alloc o).drew.heap.size = w1.heap.size + 1 := by simp
  have hown2 : w2.ownsRow (w.heap.size + 2) 3 1 v (ns k + 1) (rowL k (ns k) ++ [.int .i64 m]) := by
    obtain ⟨r1, r2⟩ := hown
    refine ⟨r1, ?_⟩
    rcases r2 with r2 | ⟨g, cap, cur, hv, hg, r3⟩
    · exact Or.inl r2
    · exact Or.inr ⟨g, cap, cur, hv, by omega, r3⟩
  refine ⟨fun kl hkl => h.keys kl (by simp at hkl; exact hkl.1), fun j hj => (h.recs j hj).kept hc (fun i hi => by cases hi; omega), fun j hj => ?_, ?_, Nat.le_trans h.size hc.size, (hc.block _ (by omega) (by simp; omega)).trans h.ch⟩
  · by_cases hjk : j = k
    · subst hjk
      simp only [left_same]
      unfold ChanSt
      rw [if_pos (by simp [hh])]
      refine ⟨v, hb3, hown2.kept hg3 ?_⟩
      cases hv : v.ownBlock with
      | none => exact Or.inl rfl
      | some g =>
        refine Or.inr fun e => ?_
        have := hown2.lt g hv
        cases e
        omega
    · simp only [left_other left hjk]
      exact (h.chans j hj).kept hc (fun i hi => by cases hi; omega)
  · exact h.below.grown hc (by omega) (fun i hi => by cases hi; omega)
end

set_option maxRecDepth 100000 in
set_option maxHeartbeats 1000000 in
theorem keep_any (w : World) (p M H K : Nat) (zs : Nat → Int) (ns : Nat → Nat) (f : Nat) (m : Int) (hf : f < 5) (hn : ∀ k, k < K → ns k ≤ 3)
    (hp1 : w.cell? ⟨p, 1, none⟩ = some (.int .i64 9)) (hp7 : w.cell? ⟨p, 7, none⟩ = some (.map (some M)))
    (hown : w.ownsMap Yba.prog 31 Rp M K (Dk (fun k => H + 7 * k + 2) K)) (hM : M < H) (hp : p < H) (hN : H + 7 * K ≤ w.heap.size)
    (hrec : ∀ k, k < K → Recd w H k (zs k) (ns k)) (hch : ∀ k, k < K → ChanSt w (w.heap.size + 2) H k (zs k) (ns k) f m false) :
    Calls Yba.prog 6 #[.pointer (some ⟨p, 0, none⟩), .int .i64 f, .int .i64 m] w fun e w' => e = .returned (.tuple #[]) ∧ Below H w w' ∧ w'.ownsMap Yba.prog 31 Rp M K (Dk (fun k => H + 7 * k + 2) K)
      ∧ (∀ k, k < K → Recd w' H k (zs k) (ns k)) ∧ (∀ k, k < K → ChanSt w' (w.heap.size + 2) H k (zs k) (ns k) f m true) := by
  have hp7' : ∀ o, (w.alloc o).cell? ⟨p, 7, none⟩ = some (.map (some M)) := fun o => by rw [World.cell?_alloc_some _ _ _ (by rw [hp7]; rfl)]; exact hp7
  go_enter Yba.func6, Yba.ntmps6
  go_wp2_with (first
    | (at_range; refine wpList_range_own _ rfl _ 24 rfl 31 37 law31 Yba.underlying24 _ M K _ rfl (hown.alloc _) ?_; intro w0 hrg0 hg0 hs0)
    | go_in)
  have e0 : (w.alloc (.cells #[.int .i64 f, .int .i64 9] 47)).heap.size = w.heap.size + 1 := by simp
  rw [e0] at hrg0 hs0 ⊢
  go_frame
  have hga : w.grownBy w0 none := (World.grownBy_alloc w _ none).trans hg0
  have hbl : w0.heap[w.heap.size]? = some (.cells #[.int .i64 f, .int .i64 9] 47 (0, 0)) := (hg0.block _ (by simp) (by simp)).trans (MapKept.heap_alloc w _).1
  go_loopw [8] (fun _ wr => ∃ (left : Lit → Bool) (cnt : Nat), wr.ranges Yba.prog 31 Rp M (w.heap.size + 1) K (Dk (fun k => H + 7 * k + 2) K) left cnt ∧ KInv w H K zs ns f m left wr)
    (fun _ wr => wr.rangeLeft M (w.heap.size + 1))
  case atStart =>
    refine ⟨_, _, hrg0, fun kl h => h, fun k hk => (hrec k hk).kept hga (fun j hj => by cases hj), fun k hk => ?_, (Below.refl _ _).grown hga (by omega) (fun k hk => by cases hk), by omega, hbl⟩
    rw [Dk_hasYes _ _ _ hk]
    exact (hch k hk).kept hga (fun j hj => by cases hj)
  case round =>
    obtain ⟨left, cnt, hrg, hinv⟩ := hrel
    clear hrg0 hg0 hs0 hga hbl hrec hch hown
    go_wp2_with (first
      | (at_next; refine wpList_next_ranges _ rfl _ rfl 31 law31 Rp (Value.int .u64) Value.pointer (fun key kl hkey => by obtain ⟨x, rfl, _⟩ := Maps.keyOf_int_inv Yba.underlying31 hkey; exact ⟨x, rfl⟩) (fun v y hv => by cases v <;> first | exact ⟨_, rfl⟩ | simp [Rp] at hv) M (w.heap.size + 1) K _ left cnt rfl hrg ?_ ?_)
      | go_in)
    · intro _ hl0
      go_wp2
      go_end0
      refine ⟨rfl, hinv.below, hrg.owns, hinv.recs, fun k hk => ?_⟩
      have := hinv.chans k hk
      rw [hl0] at this
      exact this
    · intro x c kl y yp w1 cnt1 hkey hlk hRv hat hrg1 hlt hg1 hs1 hen
      obtain ⟨k, hk, rfl, rfl, rfl⟩ := next_form (g := fun k => H + 7 * k + 2) (K := K) (hinv.keys kl hlk) hkey hRv hat
      clear hkey hRv hat
      have hinv1 := hinv.step hN hg1
      have HS1 : Hid (w1.heap.size = wr.heap.size) := hs1
      clear hs1
      have hrk := hinv1.recs k hk
      have hck := hinv1.chans k hk
      have c4 : w1.cell? ⟨H + 7 * k + 2, 4, none⟩ = some (.map (some (H + 7 * k + 1))) := (cell_of_block hrk.blk 4).trans rfl
      have c3 : w1.cell? ⟨H + 7 * k + 2, 3, none⟩ = some (.map (some (H + 7 * k))) := (cell_of_block hrk.blk 3).trans rfl
      have hl := look_hit (zs k) f hrk.wait
      cases hh : hit (zs k) f
      · rw [hh] at hl
        go_wp2_with (first
          | (at_lookup; refine wpList_lookup_raw _ rfl _ _ 41 false rfl _ _ _ rfl rfl hl ?_; go_frame)
          | go_in)
        go_roundw
        case rel => exact ⟨_, cnt1, hrg1, hinv1.pass hh⟩
        case measure => rw [hrg1.left_eq, hrg.left_eq]; exact hlt
      · rw [hh] at hl
        have hf4 : f < 4 := by simp [hit] at hh; exact hh.1
        have hch1 : w1.heap[H + 7 * k]? = some (.map (chL (slV H k (ns k)) 0 4).toArray 4) := by
          unfold ChanSt at hck
          rw [hlk, if_neg (by simp)] at hck
          exact hck
        have hlk1 : (Instr.lookup 38 (.map (some (H + 7 * k))) (.agg #[.int .i64 f, .int .i64 9]) false).run Yba.prog w1.drew = .ok (slV H k (ns k) f) w1.drew := look_ch (w := w1.drew) (slV H k (ns k)) f 4 4 false hch1 hf4
        have hlk2 : ∀ o, (Instr.lookup 38 (.map (some (H + 7 * k))) (.agg #[.int .i64 f, .int .i64 9]) false).run Yba.prog (w1.alloc o).drew = .ok (slV H k (ns k) f) (w1.alloc o).drew := fun o => look_ch (w := (w1.alloc o).drew) (slV H k (ns k)) f 4 4 false (((MapKept.heap_alloc w1 o).2 _ (Array.getElem?_eq_some_iff.1 hch1).1).trans hch1) hf4
        obtain ⟨i0, hi, hz0, hz1, hz2⟩ := info_parts info3
        have hn3 := hn k hk
        have hlt1 : H + 7 * k < w1.heap.size := (Array.getElem?_eq_some_iff.1 hch1).1
        have hcb1 := hinv1.ch
        have cN0 : w1.cell? ⟨w.heap.size, 0, none⟩ = some (.int .i64 f) := (cell_of_block hcb1 0).trans rfl
        have cN1 : w1.cell? ⟨w.heap.size, 1, none⟩ = some (.int .i64 9) := (cell_of_block hcb1 1).trans rfl
        have hne1 := World.new_ne w1 _ c3
        have hne2 := World.new_ne w1 _ cN0
        go_wp2_with (first
          | (at_lookup; refine wpList_lookup_raw _ rfl _ _ 41 false rfl _ _ _ rfl rfl hl ?_; go_frame)
          | go_in)
        go_region_held3 (fun w' => w'.cell? ⟨H + 7 * k + 2, 3, none⟩ = some (.map (some (H + 7 * k))) ∧ w'.cell? ⟨w.heap.size, 0, none⟩ = some (.int .i64 f) ∧ w'.cell? ⟨w.heap.size, 1, none⟩ = some (.int .i64 9))
          (first | assumption | go_keep)
          ((refine step_append_grows rfl (.tmp 42) (.tmp 44) 30 rfl 3 i0 (.int .i64 0) 1 8 Yba.underlying30 hi hz0 hz1 hz2 rfl (by decide) (some ⟨H + 7 * k + 3 + f, 0, none⟩) (ns k) (ns k) (rowL k (ns k)) (by rfl) (by simp) (by simp [rowL_len]) (row_cells (((MapKept.heap_alloc w1 _).2 _ (Array.getElem?_eq_some_iff.1 (hrk.row f hf4)).1).trans (hrk.row f hf4))) ⟨w1.heap.size, 0, none⟩ 1 1 [.int .i64 m] (by rfl) rfl (cell_one_new w1 (.int .i64 m) 3) (ints_oneCell .i64 [m]) (by omega) (by unfold maxLen; omega) (by omega) ?_
            intro v' w2 hown' hgrow
            obtain ⟨g', cap', hv'⟩ := own_form hown'
            subst hv'
            obtain ⟨w3, hmu, hg3, hs3, hb3⟩ := upd_step (w2 := w2) (H := H) (k := k) (n := ns k) (f := f) ((hgrow.block _ (by simp; omega) (by simp)).trans (((MapKept.heap_alloc w1 _).2 _ (Array.getElem?_eq_some_iff.1 hch1).1).trans hch1)) hf4 (.slice (some ⟨g', 0, none⟩) (ns k + 1) cap')
            have hinv3 := hinv1.put hN hk hh hgrow hg3 hown' hb3
            have hrg3 := (hrg1.kept (((grown_al w1 _).trans hgrow).but (some (H + 7 * k)) |>.trans hg3) (by simp; omega) (by simp; omega))
            have hS2 : w2.cell? ⟨H + 7 * k + 2, 3, none⟩ = some (.map (some (H + 7 * k))) ∧ w2.cell? ⟨w.heap.size, 0, none⟩ = some (.int .i64 f) ∧ w2.cell? ⟨w.heap.size, 1, none⟩ = some (.int .i64 9) := ⟨hgrow.cell (cell_al c3 _) (by simp), hgrow.cell (cell_al cN0 _) (by simp), hgrow.cell (cell_al cN1 _) (by simp)⟩
            have hS3 : w3.cell? ⟨H + 7 * k + 2, 3, none⟩ = some (.map (some (H + 7 * k))) ∧ w3.cell? ⟨w.heap.size, 0, none⟩ = some (.int .i64 f) ∧ w3.cell? ⟨w.heap.size, 1, none⟩ = some (.int .i64 9) := ⟨hg3.cell hS2.1 (by simp), hg3.cell hS2.2.1 (by simp; omega), hg3.cell hS2.2.2 (by simp; omega)⟩))
        all_goals
          go_wp2
          go_roundw
          case rel => exact ⟨_, cnt1, hrg3, hinv3⟩
          case measure => rw [hrg3.left_eq, hrg.left_eq]; exact hlt

end Go.Proofs.Ybulkalji
