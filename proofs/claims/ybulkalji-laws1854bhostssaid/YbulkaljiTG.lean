import Derived.Test.YbulkaljiTE
namespace Go.Proofs.Ybulkalji
open Go.RowKit
set_option linter.unusedVariables false
set_option linter.unusedSimpArgs false

theorem info4 : (Yba.prog.info? 4).map (fun i => (i.zero, i.size, i.bytes)) = some (some (.bool false), 1, 1) := by kernel_rfl
theorem info4z : (Yba.prog.info? 4).isSome = true := by kernel_rfl

theorem zero_list (k : Nat) : (Builtin.zeroCells #[Value.bool false] k).toList = List.replicate k (.bool false) := by
  apply List.ext_getElem?
  intro i
  by_cases h : i < k
  · simp [Builtin.zeroCells, List.getElem?_replicate, h, Nat.mod_one]
  · simp [Builtin.zeroCells, List.getElem?_replicate, h]

/-- append(host, make([]bool, k)...). -/
theorem append_zeros {w : World} {B : Nat} {v : Value} {n : Nat} {xs : List Value} (hown : w.ownsRow B 4 1 v n xs) (k : Nat) (hk : 0 < k) (hn : n + k ≤ 100000) (hB : B ≤ w.heap.size) :
    ∃ v' w', (Builtin.append_ #[70, 3] 70 #[v, .int .i64 k]).run Yba.prog w = .ok v' w' ∧ w'.ownsRow B 4 1 v' (n + k) (xs ++ List.replicate k (.bool false)) ∧ w.grownBy w' v.ownBlock := by
  obtain ⟨i, hi, hz0, hz1, hz2⟩ := info_parts info4
  have hxs : xs.length = n := by simpa using hown.1
  have hzc : (Value.bool false).cells = #[.bool false] := rfl
  have hlen : (xs ++ List.replicate k (Value.bool false)).length = (n + k) * 1 := by simp [hxs]
  have hk0 : ¬ ((k : Int) < 0) := by omega
  have hk48 : ¬ (281474976710656 < (k : Int)) := by omega
  have hkz : ¬ k = 0 := by omega
  have hw : IntKind.i64.wrap (k : Int) = (k : Int) := by rw [IntKind.wrap_i64]; omega
  have hai : ∀ w' : World, (asInt (.int .i64 (k : Int))).run Yba.prog w' = .ok (k : Int) w' := fun _ => rfl
  have hkle : ¬ ((k : Int) ≤ 0) := by omega
  have hmax : ¬ (9223372036854775807 < max (k : Int) 0) := by omega
  have grown : ∀ (old : Nat), old < n + k → ∀ (row : Option Nat),
      (w.drew.alloc (.cells (xs.toArray ++ (Builtin.zeroCells #[.bool false] k) ++ Builtin.zeroCells #[.bool false] (grownCap w (n + k) old 4 - (n + k))) 4)).ownsRow B 4 1
        (.slice (some ⟨w.heap.size, 0, none⟩) (n + k) (grownCap w (n + k) old 4)) (n + k) (xs ++ List.replicate k (.bool false)) ∧
      w.grownBy (w.drew.alloc (.cells (xs.toArray ++ (Builtin.zeroCells #[.bool false] k) ++ Builtin.zeroCells #[.bool false] (grownCap w (n + k) old 4 - (n + k))) 4)) row := by
    intro old ho row
    have hge := grownCap_ge w (n + k) old 4
    have hcm : grownCap w (n + k) old 4 ≤ maxLen := grownCap_le_maxLen w (n + k) old 4 (by unfold maxLen; omega)
    refine ⟨⟨hlen, .inr ⟨w.heap.size, _, _, rfl, hB, heap_alloc_new w.drew _, hge, hcm, ?_, ?_⟩⟩, ⟨rfl, rfl, rfl, by simp, fun j hj _ => Below.heap_alloc w.drew _ j hj⟩⟩
    · simp only [Array.size_append, List.size_toArray, size_zeroCells, hxs]
      simp
      omega
    · simp only [Array.toList_append, List.append_assoc, zero_list]
      rw [← List.append_assoc, ← hlen]
      exact List.take_left
  rcases hown.2 with ⟨rfl, rfl⟩ | ⟨g, cap, cur, rfl, hbg, hg, hnc, hcm, hcs, htake⟩
  · have hx : xs = [] := List.eq_nil_of_length_eq_zero hxs
    subst hx
    have h48' : ¬ (281474976710656 < Builtin.nextslicecap k 0 * 1) := by have := growslice_fits (need := k) (old := 0) (bytes := 1) (by omega) (by omega); omega
    have hgr := grown 0 (by omega) (Value.ownBlock (.slice none 0 0))
    simp only [Nat.zero_add, List.nil_append, Array.empty_append] at hgr ⊢
    refine ⟨_, _, ?_, hgr.1, hgr.2⟩
    have h63 : ¬ (9223372036854775807 < (k : Int)) := by omega
    simp only [Nat.mul_one] at h48'
    simp [Builtin.append_, run_underlying Yba.underlying70, run_underlying Yba.underlying3, sizeOf, typeInfo, zeroValue, hi, hz0, hz1, hz2, hai, hw, hk0, hk48, hkz, h48', h63, hkle, Question.forced, Builtin.firstCells, loadCells, loadCellsFrom, newRow, grownCap, hzc]
  · by_cases hroom : n + k ≤ cap
    · have hst := run_storeCells_at Yba.prog g n 4 (List.replicate k (Value.bool false)) 0 cur w hg (by simp; omega) (by intro u hu; rw [List.eq_of_mem_replicate hu]; rfl)
      simp only [Nat.add_zero] at hst
      refine ⟨.slice (some ⟨g, 0, none⟩) (n + k) cap, w.setRow g (cur.toList.take n ++ List.replicate k (Value.bool false) ++ cur.toList.drop (n + k)).toArray, ?_, ⟨hlen, .inr ⟨g, cap, _, rfl, hbg, setRow_heap w g cur _ 4 _ hg, hroom, hcm, ?_, ?_⟩⟩, ⟨rfl, rfl, rfl, by simp, fun j _ hj => setRow_other w g j _ (fun e => hj (by simp [Value.ownBlock, e]))⟩⟩
      · simp [Builtin.append_, run_underlying Yba.underlying70, run_underlying Yba.underlying3, sizeOf, typeInfo, zeroValue, hi, hz0, hz1, hz2, hai, hw, hk0, hk48, hkz, hroom, hkle, zero_list, Addr.add_lit, hst, hzc]
      · simp only [List.size_toArray, List.length_append, List.length_take, List.length_drop, Array.length_toList, List.length_replicate]
        omega
      · have h1 : List.take n cur.toList = xs := by simpa using htake
        rw [h1, ← hlen]
        exact List.take_left
    · have holds : ∀ j u, xs[j]? = some u → w.cell? ((⟨g, 0, none⟩ : Addr).add j) = some u := hown.cells (g := g) rfl
      have hfo := run_firstCells_some (P := Yba.prog) w.drew 1 n ⟨g, 0, none⟩ n cap xs (by simp [hxs]) (by simpa using holds)
      have h48' : ¬ (281474976710656 < Builtin.nextslicecap (n + k) cap * 1) := by have := growslice_fits (need := n + k) (old := cap) (bytes := 1) (by omega) (by omega); omega
      have h63 : ¬ (9223372036854775807 < (n : Int) + (k : Int)) := by omega
      have hgr := grown cap (by omega) (Value.ownBlock (.slice (some ⟨g, 0, none⟩) n cap))
      refine ⟨_, _, ?_, hgr.1, hgr.2⟩
      simp only [Nat.mul_one] at h48'
      simp [Builtin.append_, run_underlying Yba.underlying70, run_underlying Yba.underlying3, sizeOf, typeInfo, zeroValue, hi, hz0, hz1, hz2, hai, hw, hk0, hk48, hkz, h48', h63, hkle, hroom, Question.forced, hfo, newRow, grownCap, hzc]
end Go.Proofs.Ybulkalji
