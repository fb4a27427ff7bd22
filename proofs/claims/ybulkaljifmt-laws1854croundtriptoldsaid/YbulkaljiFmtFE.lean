import Derived.Test.YbulkaljiFmtFD
import Derived.Lib.SliceRun
import Derived.LaidEqlPtr
namespace Go.Proofs.YbulkaljiFmt
open Go.RowKit Go.Extern.Stop Go.Stop Go.Extern
set_option linter.unusedVariables false
set_option linter.unusedSimpArgs false

theorem Bytes.keep {w w' : World} {b off len : Nat} {z : Nat → Nat} (h : Bytes w b off len z) (hb : Below w.heap.size w w') : Bytes w' b off len z :=
  ⟨fun j hj => (hb.cell (World.block_lt_of_cell? w _ (h.cell j hj))).trans (h.cell j hj), h.lt⟩
theorem Bytes.cut {w : World} {b off len : Nat} {z : Nat → Nat} (h : Bytes w b off len z) (k n : Nat) (hk : k + n ≤ len) : Bytes w b (off + k) n (fun j => z (k + j)) :=
  ⟨fun j hj => by have := h.cell (k + j) (by omega); rw [show off + k + j = off + (k + j) from by omega]; exact this, fun j => h.lt _⟩

theorem eq22 (w : World) (a : Option Addr) (n c n' c' : Nat) : (binOp .eql 22 (.slice a n c) (.slice none n' c')).run Ybaf.prog w = .ok (.bool a.isNone) w := Lib.run_eql_slice_nil w _ _ a n c n' c' Ybaf.underlying22
theorem info5 : (Ybaf.prog.info? 5).isSome = true := by kernel_rfl
theorem neq30 (w : World) (a : Addr) : (binOp .neq 30 (.pointer (some a)) (.pointer (some a))).run Ybaf.prog w = .ok (.bool false) w := by
  obtain ⟨j, hj⟩ := Option.isSome_iff_exists.1 info5
  have h : ∀ d : Nat, (Op.equalIn (d + 1) 30 (.pointer (some a)) (.pointer (some a))).run Ybaf.prog w = .ok true w := fun d => by
    simp [Op.equalIn, run_underlying Ybaf.underlying30, sizeOf, typeInfo, hj, run_sameAddr_same]
  simp only [binOp]
  simp [Op.equal, Op.maxDepth, h 9999]
attribute [local go_sem] eq22 neq30

/-! ### LawS1854CModel -/
set_option maxRecDepth 100000 in
set_option maxHeartbeats 400000 in
theorem cm_big (a : Option Addr) (len cap : Nat) (w : World) (h : 4096 < len) (hm : len ≤ maxLen) :
    Calls Ybaf.prog 4 #[.slice a len cap] w fun e w' => e = .returned (.bool true) ∧ Below w.heap.size w w' := by
  unfold maxLen at hm
  go_enter Ybaf.func4, Ybaf.ntmps4
  go_wp2
  go_ret
  exact ⟨rfl, Below.refl _ _⟩

def NoVar (a : Option Addr) (len cap : Nat) (w : World) : Prop := Calls Ybaf.prog 8 #[.slice a len cap] w fun e w' => e = .returned (.tuple #[.int .u64 0, .int .i64 0, .bool false]) ∧ w' = w
def SayWn (a : Option Addr) (len cap : Nat) (w : World) : Prop := Calls Ybaf.prog 6 #[.slice a len cap] w (BadWn w)

set_option maxRecDepth 100000 in
set_option maxHeartbeats 400000 in
theorem cm_bad (a : Option Addr) (len cap : Nat) (w : World) (h : len ≤ 4096) (hw : SayWn a len cap w) (hv : ∀ w1, Below w.heap.size w w1 → NoVar a len cap w1) :
    Calls Ybaf.prog 4 #[.slice a len cap] w fun e w' => e = .returned (.bool true) ∧ Below w.heap.size w w' := by
  go_enter Ybaf.func4, Ybaf.ntmps4
  go_wp2_with fail
  refine (show Calls _ _ _ _ _ from hw).mono ?_
  rintro e w1 ⟨k, rfl, hb⟩
  have hv1 := hv w1 hb
  clear hv
  go_wp2_with fail
  refine (show Calls _ _ _ _ _ from hv1).mono ?_
  rintro e w2 ⟨rfl, rfl⟩
  go_wp2
  go_ret
  exact ⟨rfl, hb⟩

set_option maxRecDepth 100000 in
set_option maxHeartbeats 400000 in
theorem cm_long (F : Interp) (b off len cap i0 : Nat) (z : Nat → Nat) (w : World) (hF : F.answers w.tape) (h : len ≤ 4096) (hlc : len ≤ cap) (hB : Bytes w b off len z) (hE : Ends z len i0) (hn : len - (i0 + 1) < val z i0) :
    Calls Ybaf.prog 4 #[.slice (some ⟨b, off, none⟩) len cap] w fun e w' => e = .returned (.bool true) ∧ Below w.heap.size w w' := by
  have hm : len ≤ maxLen := by unfold maxLen; omega
  have hw : SayWn (some ⟨b, off, none⟩) len cap w := wn_long F b off len cap i0 z w hF hm hlc hB hE hn
  have hv : ∀ w1, Below w.heap.size w w1 → Hid (Calls Ybaf.prog 8 #[.slice (some ⟨b, off, none⟩) len cap] w1 fun e w' => e = .returned (.tuple #[.int .u64 (val z i0), .int .i64 ((i0 + 1 : Nat) : Int), .bool true]) ∧ w' = w1) := fun w1 hb => cvar_ok b off len cap i0 z w1 hm (hB.keep hb) hE
  have hl := hE.lt
  clear hE hB hlc hm
  generalize val z i0 = n at *
  obtain ⟨q, hq⟩ : ∃ q, len = i0 + 1 + q := ⟨len - (i0 + 1), by omega⟩
  subst hq
  have hnq : q < n := by omega
  clear hn hl
  go_enter Ybaf.func4, Ybaf.ntmps4
  go_wp2_with fail
  refine (show Calls _ _ _ _ _ from hw).mono ?_
  rintro e w1 ⟨k, rfl, hb⟩
  have hv1 := hv w1 hb
  clear hv hw
  go_wp2_with fail
  refine (show Calls _ _ _ _ _ from hv1.out).mono ?_
  rintro e w2 ⟨rfl, rfl⟩
  clear hv1
  go_wp2
  go_ret
  exact ⟨rfl, hb⟩

/-- wholeName at a name that is there, in sums: k bytes of length, n of name, q behind it. -/
theorem wn_sum (b off k n q cap i0 : Nat) (z : Nat → Nat) (w : World) (hk : k = i0 + 1) (hm : k + n + q ≤ maxLen) (hlc : k + n + q ≤ cap) (hB : Bytes w b off (k + n + q) z) (hE : Ends z (k + n + q) i0) (hn : val z i0 = n) :
    ∃ o1 o2 c2, (0 < n → o1 = off + k) ∧ (0 < q → o2 = off + (k + n)) ∧ Calls Ybaf.prog 6 #[.slice (some ⟨b, off, none⟩) (k + n + q) cap] w fun e w' => e = .returned (.tuple #[.slice (some ⟨b, o1, none⟩) n n, .slice (some ⟨b, o2, none⟩) q c2, .nilIface]) ∧ Below w.heap.size w w' := by
  have h := wn_ok b off (k + n + q) cap i0 z w hm hlc hB hE (by omega)
  rw [hn, ← hk, show k + n + q - k - n = q from by omega] at h
  refine ⟨_, _, _, ?_, ?_, h⟩
  · intro h0
    unfold cutO
    rw [if_neg (by omega)]
  · intro h0
    unfold cutO
    rw [if_neg (by omega), if_neg (by omega)]
    omega

set_option maxRecDepth 100000 in
set_option maxHeartbeats 800000 in
theorem cm_ok1 (b off k n q cap i0 : Nat) (z : Nat → Nat) (w : World) (hk : k = i0 + 1) (h : k + n + q ≤ 4096) (hlc : k + n + q ≤ cap) (hB : Bytes w b off (k + n + q) z) (hE : Ends z (k + n + q) i0) (hn : val z i0 = n) (hn0 : 0 < n) (hq0 : 0 < q) :
    Calls Ybaf.prog 4 #[.slice (some ⟨b, off, none⟩) (k + n + q) cap] w fun e w' => e = .returned (.bool true) ∧ Below w.heap.size w w' := by
  have hm : k + n + q ≤ maxLen := by unfold maxLen; omega
  obtain ⟨o1, o2, c2, ho1, ho2, hw⟩ := wn_sum b off k n q cap i0 z w hk hm hlc hB hE hn
  have HW := (show Hid _ from hw)
  have hv : ∀ w1, Below w.heap.size w w1 → Hid (Calls Ybaf.prog 8 #[.slice (some ⟨b, off, none⟩) (k + n + q) cap] w1 fun e w' => e = .returned (.tuple #[.int .u64 n, .int .i64 (k : Int), .bool true]) ∧ w' = w1) := fun w1 hb => by
    have := cvar_ok b off (k + n + q) cap i0 z w1 hm (hB.keep hb) hE
    rw [hn, ← hk] at this
    exact this
  have e1 := ho1 hn0
  have e2 := ho2 hq0
  subst e1 e2
  clear hE hn ho1 ho2 hm hw hk
  have hne1 : ¬ cap = k := by omega
  have hne2 : ¬ cap = k + n := by omega
  have hm1 : n ≤ maxLen := by unfold maxLen; omega
  have hm2 : q ≤ maxLen := by unfold maxLen; omega
  have hB1 := hB.cut k n (by omega)
  have hB2 := hB.cut (k + n) q (by omega)
  go_enter Ybaf.func4, Ybaf.ntmps4
  go_wp2_with fail
  refine (show Calls _ _ _ _ _ from HW.out).mono ?_
  rintro e w1 ⟨rfl, hb⟩
  have hv1 := hv w1 hb
  clear hv HW
  go_wp2_with fail
  refine (show Calls _ _ _ _ _ from hv1.out).mono ?_
  rintro e w2 ⟨rfl, rfl⟩
  clear hv1
  go_wp2_with fail
  refine (ceq_same b (off + k) _ b (off + k) _ n _ _ hm1 (hB1.keep hb) (hB1.keep hb)).mono ?_
  rintro e w3 ⟨rfl, hb3⟩
  have hbb := hb.trans (hb3.mono hb.size)
  clear hb3
  go_wp2_with fail
  refine (ceq_same b (off + (k + n)) _ b (off + (k + n)) _ q _ _ hm2 (hB2.keep hbb) (hB2.keep hbb)).mono ?_
  rintro e w4 ⟨rfl, hb4⟩
  have hbc := hbb.trans (hb4.mono hbb.size)
  clear hb4 hB hB1 hB2
  have hn0' : (0 : Int) < (n : Int) := by omega
  have hq0' : (0 : Int) < (q : Int) := by omega
  go_wp2_with fail
  go_quiet (fail)
  go_wp2_with fail
  go_quiet (fail)
  go_wp2
  go_ret
  exact ⟨rfl, below_drewN (below_drewN hbc _) _⟩

set_option maxRecDepth 100000 in
set_option maxHeartbeats 800000 in
theorem cm_ok2 (b off k n q cap i0 : Nat) (z : Nat → Nat) (w : World) (hk : k = i0 + 1) (h : k + n + q ≤ 4096) (hlc : k + n + q ≤ cap) (hB : Bytes w b off (k + n + q) z) (hE : Ends z (k + n + q) i0) (hn : val z i0 = n) (hn0 : 0 < n) (hq0 : q = 0) (hcap : ¬ cap = k + n) :
    Calls Ybaf.prog 4 #[.slice (some ⟨b, off, none⟩) (k + n + q) cap] w fun e w' => e = .returned (.bool true) ∧ Below w.heap.size w w' := by
  have hm : k + n + q ≤ maxLen := by unfold maxLen; omega
  obtain ⟨o1, o2, c2, ho1, ho2, hw⟩ := wn_sum b off k n q cap i0 z w hk hm hlc hB hE hn
  have HW := (show Hid _ from hw)
  have hv : ∀ w1, Below w.heap.size w w1 → Hid (Calls Ybaf.prog 8 #[.slice (some ⟨b, off, none⟩) (k + n + q) cap] w1 fun e w' => e = .returned (.tuple #[.int .u64 n, .int .i64 (k : Int), .bool true]) ∧ w' = w1) := fun w1 hb => by
    have := cvar_ok b off (k + n + q) cap i0 z w1 hm (hB.keep hb) hE
    rw [hn, ← hk] at this
    exact this
  have hk0 : 0 < k := by omega
  have e1 := ho1 hn0
  subst e1
  clear hE hn ho1 ho2 hm hw hk
  have hm1 : n ≤ maxLen := by unfold maxLen; omega
  have hB1 := hB.cut k n (by omega)
  clear hB
  have hne1 : ¬ cap = k := by omega
  subst hq0
  simp only [Nat.add_zero] at *
  go_enter Ybaf.func4, Ybaf.ntmps4
  go_wp2_with fail
  refine (show Calls _ _ _ _ _ from HW.out).mono ?_
  rintro e w1 ⟨rfl, hb⟩
  have hv1 := hv w1 hb
  clear hv HW
  go_wp2_with fail
  refine (show Calls _ _ _ _ _ from hv1.out).mono ?_
  rintro e w2 ⟨rfl, rfl⟩
  clear hv1
  go_wp2_with fail
  refine (ceq_same b (off + k) _ b (off + k) _ n _ _ hm1 (hB1.keep hb) (hB1.keep hb)).mono ?_
  rintro e w3 ⟨rfl, hb3⟩
  have hbb := hb.trans (hb3.mono hb.size)
  clear hb3
  go_wp2_with fail
  refine (ceq_empty _ _ _ _ _).mono ?_
  rintro e w4 ⟨rfl, hb4⟩
  have hbc := hbb.trans (hb4.mono hbb.size)
  clear hb4
  have hn0' : (0 : Int) < (n : Int) := by omega
  go_wp2_with fail
  go_quiet (fail)
  go_wp2_with fail
  go_quiet (fail)
  go_wp2
  go_ret
  exact ⟨rfl, below_drewN (below_drewN hbc _) _⟩

set_option maxRecDepth 100000 in
set_option maxHeartbeats 800000 in
theorem cm_ok3 (b off k n q cap i0 : Nat) (z : Nat → Nat) (w : World) (hk : k = i0 + 1) (h : k + n + q ≤ 4096) (hlc : k + n + q ≤ cap) (hB : Bytes w b off (k + n + q) z) (hE : Ends z (k + n + q) i0) (hn : val z i0 = n) (hn0 : 0 < n) (hq0 : q = 0) (hcap : cap = k + n) :
    Calls Ybaf.prog 4 #[.slice (some ⟨b, off, none⟩) (k + n + q) cap] w fun e w' => e = .returned (.bool true) ∧ Below w.heap.size w w' := by
  have hm : k + n + q ≤ maxLen := by unfold maxLen; omega
  obtain ⟨o1, o2, c2, ho1, ho2, hw⟩ := wn_sum b off k n q cap i0 z w hk hm hlc hB hE hn
  have HW := (show Hid _ from hw)
  have hv : ∀ w1, Below w.heap.size w w1 → Hid (Calls Ybaf.prog 8 #[.slice (some ⟨b, off, none⟩) (k + n + q) cap] w1 fun e w' => e = .returned (.tuple #[.int .u64 n, .int .i64 (k : Int), .bool true]) ∧ w' = w1) := fun w1 hb => by
    have := cvar_ok b off (k + n + q) cap i0 z w1 hm (hB.keep hb) hE
    rw [hn, ← hk] at this
    exact this
  have hk0 : 0 < k := by omega
  have e1 := ho1 hn0
  subst e1
  clear hE hn ho1 ho2 hm hw hk
  have hm1 : n ≤ maxLen := by unfold maxLen; omega
  have hB1 := hB.cut k n (by omega)
  clear hB
  subst hq0
  simp only [Nat.add_zero] at *
  subst hcap
  go_enter Ybaf.func4, Ybaf.ntmps4
  go_wp2_with fail
  refine (show Calls _ _ _ _ _ from HW.out).mono ?_
  rintro e w1 ⟨rfl, hb⟩
  have hv1 := hv w1 hb
  clear hv HW
  go_wp2_with fail
  refine (show Calls _ _ _ _ _ from hv1.out).mono ?_
  rintro e w2 ⟨rfl, rfl⟩
  clear hv1
  go_wp2_with fail
  refine (ceq_same b (off + k) _ b (off + k) _ n _ _ hm1 (hB1.keep hb) (hB1.keep hb)).mono ?_
  rintro e w3 ⟨rfl, hb3⟩
  have hbb := hb.trans (hb3.mono hb.size)
  clear hb3
  go_wp2_with fail
  refine (ceq_empty _ _ _ _ _).mono ?_
  rintro e w4 ⟨rfl, hb4⟩
  have hbc := hbb.trans (hb4.mono hbb.size)
  clear hb4
  have hn0' : (0 : Int) < (n : Int) := by omega
  go_wp2_with fail
  go_quiet (fail)
  go_wp2_with fail
  go_quiet (fail)
  go_wp2
  go_ret
  exact ⟨rfl, below_drewN (below_drewN hbc _) _⟩

set_option maxRecDepth 100000 in
set_option maxHeartbeats 800000 in
theorem cm_ok4 (b off k n q cap i0 : Nat) (z : Nat → Nat) (w : World) (hk : k = i0 + 1) (h : k + n + q ≤ 4096) (hlc : k + n + q ≤ cap) (hB : Bytes w b off (k + n + q) z) (hE : Ends z (k + n + q) i0) (hn : val z i0 = n) (hn0 : n = 0) (hq0 : 0 < q) :
    Calls Ybaf.prog 4 #[.slice (some ⟨b, off, none⟩) (k + n + q) cap] w fun e w' => e = .returned (.bool true) ∧ Below w.heap.size w w' := by
  have hm : k + n + q ≤ maxLen := by unfold maxLen; omega
  obtain ⟨o1, o2, c2, ho1, ho2, hw⟩ := wn_sum b off k n q cap i0 z w hk hm hlc hB hE hn
  have HW := (show Hid _ from hw)
  have hv : ∀ w1, Below w.heap.size w w1 → Hid (Calls Ybaf.prog 8 #[.slice (some ⟨b, off, none⟩) (k + n + q) cap] w1 fun e w' => e = .returned (.tuple #[.int .u64 n, .int .i64 (k : Int), .bool true]) ∧ w' = w1) := fun w1 hb => by
    have := cvar_ok b off (k + n + q) cap i0 z w1 hm (hB.keep hb) hE
    rw [hn, ← hk] at this
    exact this
  have hk0 : 0 < k := by omega
  have e2 := ho2 hq0
  subst e2
  clear hE hn ho1 ho2 hm hw hk
  have hm2 : q ≤ maxLen := by unfold maxLen; omega
  have hB2 := hB.cut (k + n) q (by omega)
  clear hB
  have hne1 : ¬ cap = k := by omega
  subst hn0
  simp only [Nat.add_zero] at *
  go_enter Ybaf.func4, Ybaf.ntmps4
  go_wp2_with fail
  refine (show Calls _ _ _ _ _ from HW.out).mono ?_
  rintro e w1 ⟨rfl, hb⟩
  have hv1 := hv w1 hb
  clear hv HW
  go_wp2_with fail
  refine (show Calls _ _ _ _ _ from hv1.out).mono ?_
  rintro e w2 ⟨rfl, rfl⟩
  clear hv1
  go_wp2_with fail
  refine (ceq_empty _ _ _ _ _).mono ?_
  rintro e w3 ⟨rfl, hb3⟩
  have hbb := hb.trans (hb3.mono hb.size)
  clear hb3
  go_wp2_with fail
  refine (ceq_same b (off + k) _ b (off + k) _ q _ _ hm2 (hB2.keep hbb) (hB2.keep hbb)).mono ?_
  rintro e w4 ⟨rfl, hb4⟩
  have hbc := hbb.trans (hb4.mono hbb.size)
  clear hb4
  have hq0' : (0 : Int) < (q : Int) := by omega
  go_wp2_with fail
  go_quiet (fail)
  go_wp2_with fail
  go_quiet (fail)
  go_wp2
  go_ret
  exact ⟨rfl, below_drewN (below_drewN hbc _) _⟩

set_option maxRecDepth 100000 in
set_option maxHeartbeats 800000 in
theorem cm_ok5 (b off k n q cap i0 : Nat) (z : Nat → Nat) (w : World) (hk : k = i0 + 1) (h : k + n + q ≤ 4096) (hlc : k + n + q ≤ cap) (hB : Bytes w b off (k + n + q) z) (hE : Ends z (k + n + q) i0) (hn : val z i0 = n) (hn0 : n = 0) (hq0 : q = 0) (hcap : ¬ cap = k) :
    Calls Ybaf.prog 4 #[.slice (some ⟨b, off, none⟩) (k + n + q) cap] w fun e w' => e = .returned (.bool true) ∧ Below w.heap.size w w' := by
  have hm : k + n + q ≤ maxLen := by unfold maxLen; omega
  obtain ⟨o1, o2, c2, ho1, ho2, hw⟩ := wn_sum b off k n q cap i0 z w hk hm hlc hB hE hn
  have HW := (show Hid _ from hw)
  have hv : ∀ w1, Below w.heap.size w w1 → Hid (Calls Ybaf.prog 8 #[.slice (some ⟨b, off, none⟩) (k + n + q) cap] w1 fun e w' => e = .returned (.tuple #[.int .u64 n, .int .i64 (k : Int), .bool true]) ∧ w' = w1) := fun w1 hb => by
    have := cvar_ok b off (k + n + q) cap i0 z w1 hm (hB.keep hb) hE
    rw [hn, ← hk] at this
    exact this
  have hk0 : 0 < k := by omega
  clear hE hn ho1 ho2 hm hw hk
  clear hB
  subst hn0
  subst hq0
  simp only [Nat.add_zero] at *
  go_enter Ybaf.func4, Ybaf.ntmps4
  go_wp2_with fail
  refine (show Calls _ _ _ _ _ from HW.out).mono ?_
  rintro e w1 ⟨rfl, hb⟩
  have hv1 := hv w1 hb
  clear hv HW
  go_wp2_with fail
  refine (show Calls _ _ _ _ _ from hv1.out).mono ?_
  rintro e w2 ⟨rfl, rfl⟩
  clear hv1
  go_wp2_with fail
  refine (ceq_empty _ _ _ _ _).mono ?_
  rintro e w3 ⟨rfl, hb3⟩
  have hbb := hb.trans (hb3.mono hb.size)
  clear hb3
  go_wp2_with fail
  refine (ceq_empty _ _ _ _ _).mono ?_
  rintro e w4 ⟨rfl, hb4⟩
  have hbc := hbb.trans (hb4.mono hbb.size)
  clear hb4
  go_wp2_with fail
  go_quiet (fail)
  go_wp2_with fail
  go_quiet (fail)
  go_wp2
  go_ret
  exact ⟨rfl, below_drewN (below_drewN hbc _) _⟩

set_option maxRecDepth 100000 in
set_option maxHeartbeats 800000 in
theorem cm_ok6 (b off k n q cap i0 : Nat) (z : Nat → Nat) (w : World) (hk : k = i0 + 1) (h : k + n + q ≤ 4096) (hlc : k + n + q ≤ cap) (hB : Bytes w b off (k + n + q) z) (hE : Ends z (k + n + q) i0) (hn : val z i0 = n) (hn0 : n = 0) (hq0 : q = 0) (hcap : cap = k) :
    Calls Ybaf.prog 4 #[.slice (some ⟨b, off, none⟩) (k + n + q) cap] w fun e w' => e = .returned (.bool true) ∧ Below w.heap.size w w' := by
  have hm : k + n + q ≤ maxLen := by unfold maxLen; omega
  obtain ⟨o1, o2, c2, ho1, ho2, hw⟩ := wn_sum b off k n q cap i0 z w hk hm hlc hB hE hn
  have HW := (show Hid _ from hw)
  have hv : ∀ w1, Below w.heap.size w w1 → Hid (Calls Ybaf.prog 8 #[.slice (some ⟨b, off, none⟩) (k + n + q) cap] w1 fun e w' => e = .returned (.tuple #[.int .u64 n, .int .i64 (k : Int), .bool true]) ∧ w' = w1) := fun w1 hb => by
    have := cvar_ok b off (k + n + q) cap i0 z w1 hm (hB.keep hb) hE
    rw [hn, ← hk] at this
    exact this
  have hk0 : 0 < k := by omega
  clear hE hn ho1 ho2 hm hw hk
  clear hB
  subst hn0
  subst hq0
  simp only [Nat.add_zero] at *
  subst hcap
  go_enter Ybaf.func4, Ybaf.ntmps4
  go_wp2_with fail
  refine (show Calls _ _ _ _ _ from HW.out).mono ?_
  rintro e w1 ⟨rfl, hb⟩
  have hv1 := hv w1 hb
  clear hv HW
  go_wp2_with fail
  refine (show Calls _ _ _ _ _ from hv1.out).mono ?_
  rintro e w2 ⟨rfl, rfl⟩
  clear hv1
  go_wp2_with fail
  refine (ceq_empty _ _ _ _ _).mono ?_
  rintro e w3 ⟨rfl, hb3⟩
  have hbb := hb.trans (hb3.mono hb.size)
  clear hb3
  go_wp2_with fail
  refine (ceq_empty _ _ _ _ _).mono ?_
  rintro e w4 ⟨rfl, hb4⟩
  have hbc := hbb.trans (hb4.mono hbb.size)
  clear hb4
  go_wp2_with fail
  go_quiet (fail)
  go_wp2_with fail
  go_quiet (fail)
  go_wp2
  go_ret
  exact ⟨rfl, below_drewN (below_drewN hbc _) _⟩

end Go.Proofs.YbulkaljiFmt
