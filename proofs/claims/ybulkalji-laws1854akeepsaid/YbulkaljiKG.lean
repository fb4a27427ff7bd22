import Derived.Test.YbulkaljiKE
namespace Go.Proofs.Ybulkalji
open Go.RowKit Go.Maps
set_option linter.unusedVariables false
set_option linter.unusedSimpArgs false

set_option maxRecDepth 100000 in
set_option maxHeartbeats 1000000 in
/-- No byte of waits: nothing is recorded. -/
theorem law_empty (fr : Int) (f : Nat) (m : Int) (a2 : Option Addr) (cap : Nat) (a3 : Option Addr) (len3 cap3 : Nat) (w : World) (h0 : 0 ≤ fr) (h1 : fr ≤ 255) (hfr : fr % 5 = (f : Int)) :
    Calls Yba.prog 3 #[.int .u8 fr, .int .i64 m, .slice a2 0 cap, .slice a3 len3 cap3] w fun e w' => e = .returned (.bool true) ∧ Below w.heap.size w w' := by
  have hmm := @run_makeMap Yba.prog
  have HFR : Hid (fr % 5 = (f : Int)) := hfr
  clear hfr
  have hb0 := wr_start w (fun _ => 0) (fun _ => 0)
  go_enter Yba.func3, Yba.ntmps3
  go_wp2_with fail
  refine wp_loop_rounds 1 ?_
  rw [rounds_succ]
  go_wp2_with fail
  rw [HFR.out]
  refine (keep_any _ (w.heap.size + 1) w.heap.size (w.heap.size + 2) 0 (fun _ => 0) (fun _ => 0) f m (by have := HFR.out; omega) (fun j hj => by omega) ((cell_of_block hb0.proc 1).trans rfl) ((cell_of_block hb0.proc 7).trans rfl) hb0.own (by omega) (by omega) (by simp) (fun j hj => by omega) (fun j hj => by omega)).mono ?_
  rintro e wK ⟨rfl, hbK, hownK, hrecK, hchK⟩
  have hbel : Below w.heap.size w wK := hb0.below.trans (hbK.mono (by omega))
  have hprocK : wK.heap[w.heap.size + 1]? = some (procC w.heap.size) := (hbK.block _ (by omega)).trans hb0.proc
  have c7K : wK.cell? ⟨w.heap.size + 1, 7, none⟩ = some (.map (some w.heap.size)) := (cell_of_block hprocK 7).trans rfl
  have hlenK := fun ty => hownK.len (t := 24) (e := 37) Yba.underlying24 ty
  rw [(Dk_tidy _ 0).2] at hlenK
  clear hbK hb0 HFR hprocK hownK hrecK hchK
  go_wp2_with fail
  refine wp_loop_rounds 1 ?_
  rw [rounds_succ]
  go_wp2
  go_ret
  exact ⟨rfl, hbel⟩

set_option maxRecDepth 100000 in
/-- More than 256: the law answers at once. -/
theorem law_big (fr m : Int) (a2 : Option Addr) (len cap : Nat) (a3 : Option Addr) (len3 cap3 : Nat) (w : World) (h : 256 < len) (hm : len ≤ maxLen) :
    Calls Yba.prog 3 #[.int .u8 fr, .int .i64 m, .slice a2 len cap, .slice a3 len3 cap3] w fun e w' => e = .returned (.bool true) ∧ Below w.heap.size w w' := by
  unfold maxLen at hm
  go_enter Yba.func3, Yba.ntmps3
  go_wp2
  go_ret
  exact ⟨rfl, Below.refl _ _⟩

end Go.Proofs.Ybulkalji
