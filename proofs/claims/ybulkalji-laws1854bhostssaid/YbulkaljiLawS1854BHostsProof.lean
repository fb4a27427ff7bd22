/-
  The proof of 'Rows.LawS1854BHostsSaid': the frame is the shell's (written by program), turned to two slices and to the form's own bound on a string's bytes; the walk is YbulkaljiTK's (KB, TA .. TL).
-/
import Derived.Test.YbulkaljiTK
import Derived.WalkKit
import Derived.ProofKit
import Derived.OpenShut
import Derived.ShutString
import Derived.ChangeOld
import Derived.Below
import Derived.SizedLaws
import Derived.SliceStrings
namespace Go.Proofs.Ybulkalji.lawS1854BHosts
open Go.ChangeShapes Go.WideShapes Go.ChangeAt Go.RowKit
set_option linter.unusedVariables false

theorem own : ownKnob Yba.prog.godebug = none := by kernel_rfl
theorem laidOut : laidOutB Yba.prog = true := by kernel_rfl

theorem weight_in {H : Type} {P : Program} {e : TypeId} : ∀ (ss : List ByteArray) (s : ByteArray), s ∈ ss → s.data.toList.length ∈ DataW.weightsAll (H := H) P e (Go.ChangeShapes.strs ss)
  | x :: ss, s, h => by
    simp only [Go.ChangeShapes.strs, List.map_cons, DataW.weightsAll, List.mem_append]
    rcases List.mem_cons.1 h with rfl | h
    · left; simp [DataW.weights]
    · right; exact weight_in ss s h

/-- The walk's premise on the bytes, from the row that was opened. -/
theorem src_bytes {w : World} {x : Addr} {len cap : Nat} {zs : List Int} (hl : len ≤ zs.length) (hc : ∀ i, i < zs.length → w.cell? (x.add i) = some (.int .u8 (zs.getD i 0))) (hw : ∀ n ∈ zs, (Lit.int .u8 n).wf = true) :
    SrcB w (some x) len (fun j => (zs.getD j 0).toNat) := by
  have hr : ∀ j, 0 ≤ zs.getD j 0 ∧ zs.getD j 0 ≤ 255 := fun j => by have := range_u8 hw j; simpa using this
  refine ⟨fun h0 => ?_, fun j => by have := hr j; omega⟩
  obtain ⟨b, off, rfl, hcell⟩ := ints_at hc (by omega)
  refine ⟨b, off, rfl, fun j hj => ?_⟩
  rw [hcell j (by omega)]
  have := hr j
  congr 2
  omega

theorem strs_at {w : World} {x : Addr} {ss : List ByteArray} (hc : ∀ i, i < ss.length → w.cell? (x.add i) = some (.string (ss.getD i ByteArray.empty))) (h0 : 0 < ss.length) :
    ∃ b off, x = ⟨b, off, none⟩ ∧ ∀ i, i < ss.length → w.cell? ⟨b, off + i, none⟩ = some (.string (ss.getD i ByteArray.empty)) := by
  obtain ⟨b, off, spot⟩ := x
  have hspot : spot = none := by simpa [Addr.add] using World.cell?_spot (hc 0 h0)
  subst hspot
  exact ⟨b, off, rfl, fun j hj => by rw [← Go.WideShapes.add_plain]; exact hc j hj⟩

theorem src_strs {w : World} {x : Addr} {len : Nat} {ss : List ByteArray} (hl : len ≤ ss.length) (hc : ∀ i, i < ss.length → w.cell? (x.add i) = some (.string (ss.getD i ByteArray.empty))) (hw : ∀ s ∈ ss.take len, s.data.toList.length ≤ reachBytes) :
    SrcS w (some x) len (fun j => ss.getD j ByteArray.empty) := by
  refine ⟨fun h0 => ?_, fun j hj => ?_⟩
  · obtain ⟨b, off, rfl, hcell⟩ := strs_at hc (by omega)
    exact ⟨b, off, rfl, fun j hj => hcell j (by omega)⟩
  · have hm : ss.getD j ByteArray.empty ∈ ss.take len := by
      rw [List.getD_eq_getElem?_getD, List.getElem?_eq_getElem (by omega)]
      simp only [Option.getD_some]
      exact List.mem_take_iff_getElem.2 ⟨j, by omega, rfl⟩
    have h1 := hw _ hm
    have h2 := reachBytes_lt
    have e : (ss.getD j ByteArray.empty).data.toList.length = (ss.getD j ByteArray.empty).size := by cases ss.getD j ByteArray.empty; rfl
    omega

theorem walk (a a' : Option Addr) (nl cn tl ct : Nat) (src : Nat → ByteArray) (z : Nat → Nat) (w : World) (hm : nl ≤ maxLen) (hm' : tl ≤ maxLen) (hA : SrcS w a nl src) (hZ : SrcB w a' tl z) :
    Calls Yba.prog 4 #[.slice a nl cn, .slice a' tl ct] w fun e w' => e = .returned (.bool true) ∧ Below w.heap.size w w' := by
  by_cases h : 256 < nl ∨ 1024 < tl
  · exact bh_big a a' nl cn tl ct w h hm hm'
  · exact bh_ok a a' nl cn tl ct src z w (by omega) (by omega) hA hZ

set_option maxRecDepth 100000 in
theorem lifted (os : Os) (started : os.Started) (H : Type) (enc : TypeId × Value → H) :
    ReturnsInHanded {} Yba.checked os 4 .any (Rows.lawS1854BHostsSpec.pre6 enc Yba.prog Yba.f4 Rows.lawS1854BHostsRow.domain false) (Rows.lawS1854BHostsSpec.post enc Yba.prog Yba.f4 false true false false) := by
  refine returnsInHanded_of_change_sized (C := Yba.checked) own started (by kernel_rfl) Yba.func4
    (ChangeSpec.witness6 (enc := enc) (C := Yba.checked) false ⟨#[], #[.slice none 0 0, .slice none 0 0], []⟩ 8 (by kernel_rfl) (by kernel_rfl) (by kernel_rfl) (by kernel_rfl)) ?_
  intro W base args ds gs before hval0 hW hcnd hsize0 _
  have hval : ∀ (j : Nat) t v, Yba.f4.params[j]? = some t → args[j]? = some v → Value.okWide Yba.prog W .any base t v := hval0
  have hsize : (DataW.weightsEach Yba.prog (Yba.f4.params.toList ++ Rows.lawS1854BHostsSpec.plain.varTypes Yba.prog) (ds ++ gs)).all (· ≤ reachBytes) = true := hsize0
  have hW' := hW
  obtain ⟨p, q, hA0, hV, rfl, hfz, hnd⟩ := hW
  have hA : DataW.TrodAll enc Yba.prog W 0 (fun _ => true) true Yba.f4.params.toList args.toList ds p := hA0
  rw [Yba.params4] at hA hval hsize
  obtain ⟨v0, vs0, d0, ds0, p0, q0, hargs, rfl, rfl, h0, r0⟩ := trodAll_cons hA
  obtain ⟨v1, vs1, d1, ds1, p1, q1, rfl, rfl, rfl, h1, r1⟩ := trodAll_cons r0
  obtain ⟨rfl, rfl, rfl⟩ := trodAll_nil r1
  obtain rfl : args = #[v0, v1] := by cases args; simp_all
  obtain ⟨rfl, rfl⟩ := trodVars_none hV
  obtain ⟨a0, len0, cap0, rfl⟩ := okWide_slice Yba.underlying52 (hval 0 52 v0 rfl rfl)
  have k0 := h0
  have lt0 : ∀ x ∈ p0, x.block < W.heap.size := by obtain ⟨m, hm⟩ := k0; exact DataW.trod_lt m _ _ _ hm
  obtain ⟨src, hm0, w0⟩ : ∃ src, len0 ≤ maxLen ∧ SrcS W a0 len0 src := by
    obtain ⟨fuel, hf⟩ := h0
    rcases open_strings Yba.underlying52 Yba.underlying9 (by kernel_rfl) hf with ⟨hcs, _⟩ | ⟨x, l, c, ss, hcs, _, hl, hm, hz, hx, hcell, hsz⟩
    · simp [Value.cells] at hcs
      obtain ⟨rfl, rfl, rfl⟩ := hcs
      exact ⟨fun _ => ByteArray.empty, Nat.zero_le _, ⟨fun h => by omega, fun j hj => by omega⟩⟩
    · simp [Value.cells] at hcs
      obtain ⟨rfl, rfl, rfl⟩ := hcs
      simp only [Prod.mk.injEq] at hx
      obtain ⟨rfl, rfl⟩ := hx
      simp only [if_true] at hz
      refine ⟨_, by omega, src_strs (by omega) hcell fun s hs => ?_⟩
      have := List.all_eq_true.1 hsize _ (DataW.weights_mem_each (j := 0) (t := 52) rfl rfl s.data.toList.length (by simp only [DataW.weights, Yba.underlying52, List.mem_cons, List.mem_append]; exact .inr (.inl (weight_in _ s hs))))
      simpa using this
  obtain ⟨a1, len1, cap1, rfl⟩ := okWide_slice Yba.underlying22 (hval 1 22 v1 rfl rfl)
  have k1 := h1
  have lt1 : ∀ x ∈ p1, x.block < W.heap.size := by obtain ⟨m, hm⟩ := k1; exact DataW.trod_lt m _ _ _ hm
  obtain ⟨z, hm1, w1⟩ : ∃ z, len1 ≤ maxLen ∧ SrcB W a1 len1 z := by
    obtain ⟨fuel, hf⟩ := h1
    rcases open_ints Yba.underlying22 Yba.underlying5 (by kernel_rfl) hf with ⟨hcs, _⟩ | ⟨x, l, c, zs, hcs, _, hl, hm, hz, _, hcell, hwz⟩
    · simp [Value.cells] at hcs
      obtain ⟨rfl, rfl, rfl⟩ := hcs
      exact ⟨fun _ => 0, Nat.zero_le _, ⟨fun h => by omega, fun j => by omega⟩⟩
    · simp [Value.cells] at hcs
      obtain ⟨rfl, rfl, rfl⟩ := hcs
      simp only [if_true] at hz
      exact ⟨_, by omega, src_bytes (cap := len1) (by omega) hcell hwz⟩
  clear hA0 hval0 hsize0
  refine (walk a0 a1 len0 cap0 len1 cap1 src z W hm0 hm1 w0 w1).mono fun e W' ⟨he, bel⟩ => ?_
  subst he
  exact ⟨_, rfl, _, _, _, [], _, [], hW', trodAll_mk1 (shut_bool Yba.underlying4 _), (trodAll_cons_mk (Below.trod laidOut (by kernel_rfl) (of_decide_eq_true (by kernel_rfl)) k0 bel lt0) (trodAll_cons_mk (Below.trod laidOut (by kernel_rfl) (of_decide_eq_true (by kernel_rfl)) k1 bel lt1) trodAll_mk0)), rfl, bel.frame _, fun h => by cases h⟩

theorem over : Rows.lawS1854BHostsRow.holds Yba.pinned (OpenSpec.ofChange Rows.lawS1854BHostsSpec) :=
  OpenClaim.holds_of_wide 4 Yba.f4 rfl rfl rfl rfl rfl rfl rfl ⟨rfl, rfl, rfl, rfl, rfl⟩ rfl rfl rfl rfl rfl (by kernel_rfl) Yba.func4 (by kernel_rfl)
    (of_decide_eq_true (by kernel_rfl)) (by unfold Func.isWrapper; first | (rw [if_pos (by decide +kernel)]; kernel_rfl) | (rw [if_neg (by decide +kernel)]; exact ⟨rfl, rfl⟩))
    (fun os started H enc _ => lifted os started H enc)

/-- ████ THE STATEMENT ████ -/
theorem proved : Rows.LawS1854BHostsSaid := over
#print axioms proved
end Go.Proofs.Ybulkalji.lawS1854BHosts
