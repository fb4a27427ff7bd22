import Derived.Test.YbulkaljiFmtFE
import Derived.OpenShut
namespace Go.Proofs.YbulkaljiFmt
open Go.RowKit Go.Extern.Stop Go.Stop Go.Extern
set_option linter.unusedVariables false
set_option linter.unusedSimpArgs false

/-- WHAT THE WALK IS TOLD OF A SLICE OF BYTES THAT CAME IN (after the shells of the guide). -/
def IsRow (w : World) (a : Option Addr) (len cap : Nat) (zs : List Int) : Prop :=
  (a = none ∧ len = 0 ∧ cap = 0 ∧ zs = []) ∨
  ∃ x, a = some x ∧ len ≤ cap ∧ cap ≤ maxLen ∧ zs.length = cap ∧ (∀ i, i < zs.length → w.cell? (x.add i) = some (.int .u8 (zs.getD i 0))) ∧ ∀ n ∈ zs, (Lit.int .u8 n).wf = true

def nat8 (zs : List Int) (j : Nat) : Nat := (zs.getD j 0).toNat

theorem row_bounds {zs : List Int} (h : ∀ n ∈ zs, (Lit.int .u8 n).wf = true) (j : Nat) : 0 ≤ zs.getD j 0 ∧ zs.getD j 0 ≤ 255 := by
  have := range_u8 h j
  simpa using this

/-- A row that is not empty has its bytes at an address. -/
theorem bytes_of {w : World} {x : Addr} {len cap : Nat} {zs : List Int} (hl : len ≤ cap) (hz : zs.length = cap) (hc : ∀ i, i < zs.length → w.cell? (x.add i) = some (.int .u8 (zs.getD i 0))) (hw : ∀ n ∈ zs, (Lit.int .u8 n).wf = true) (hpos : 0 < len) :
    ∃ b off, x = ⟨b, off, none⟩ ∧ Bytes w b off len (nat8 zs) := by
  obtain ⟨b, off, rfl, hcell⟩ := ints_at hc (by omega)
  refine ⟨b, off, rfl, fun j hj => ?_, fun j => ?_⟩
  · have h1 := hcell j (by omega)
    have h2 := row_bounds hw j
    rw [h1]
    congr 2
    unfold nat8
    omega
  · have h2 := row_bounds hw j
    unfold nat8
    omega

theorem cm_walk (F : Interp) (a : Option Addr) (len cap : Nat) (zs : List Int) (w : World) (hF : F.answers w.tape) (hr : IsRow w a len cap zs) :
    Calls Ybaf.prog 4 #[.slice a len cap] w fun e w' => e = .returned (.bool true) ∧ Below w.heap.size w w' := by
  have empty : ∀ (a : Option Addr) (cap : Nat), Calls Ybaf.prog 4 #[.slice a 0 cap] w fun e w' => e = .returned (.bool true) ∧ Below w.heap.size w w' := fun a cap =>
    cm_bad a 0 cap w (by omega) (wn_bad a 0 cap w (uo_empty a cap w)) (fun w1 _ => cvar_empty a cap w1)
  rcases hr with ⟨rfl, rfl, rfl, rfl⟩ | ⟨x, rfl, hl, hm, hz, hc, hw⟩
  · exact empty none 0
  · by_cases hpos : 0 < len
    · by_cases hbig : 4096 < len
      · exact cm_big (some x) len cap w hbig (by omega)
      · obtain ⟨b, off, rfl, hB⟩ := bytes_of hl hz hc hw hpos
        have hm' : len ≤ maxLen := by omega
        generalize nat8 zs = z at hB
        rcases kinds z len with ⟨i0, hE⟩ | hE | hE | ⟨i0, hE⟩
        · by_cases hn : val z i0 ≤ len - (i0 + 1)
          · have hi := hE.lt
            obtain ⟨q, hq⟩ : ∃ q, len = (i0 + 1) + val z i0 + q := ⟨len - (i0 + 1) - val z i0, by omega⟩
            rw [hq] at hB hE hl hbig ⊢
            generalize hk : i0 + 1 = k at *
            generalize hnn : val z i0 = n at *
            by_cases hn0 : 0 < n
            · by_cases hq0 : 0 < q
              · exact cm_ok1 b off k n q cap i0 z w hk.symm (by omega) hl hB hE hnn hn0 hq0
              · by_cases hcap : cap = k + n
                · exact cm_ok3 b off k n q cap i0 z w hk.symm (by omega) hl hB hE hnn hn0 (by omega) hcap
                · exact cm_ok2 b off k n q cap i0 z w hk.symm (by omega) hl hB hE hnn hn0 (by omega) hcap
            · by_cases hq0 : 0 < q
              · exact cm_ok4 b off k n q cap i0 z w hk.symm (by omega) hl hB hE hnn (by omega) hq0
              · by_cases hcap : cap = k
                · exact cm_ok6 b off k n q cap i0 z w hk.symm (by omega) hl hB hE hnn (by omega) (by omega) hcap
                · exact cm_ok5 b off k n q cap i0 z w hk.symm (by omega) hl hB hE hnn (by omega) (by omega) hcap
          · exact cm_long F b off len cap i0 z w hF (by omega) hl hB hE (by omega)
        · exact cm_bad _ len cap w (by omega) (wn_bad _ len cap w (uo_cut b off len cap z w hB hE hpos)) (fun w1 hb => cvar_cut b off len cap z w1 (hB.keep hb) hE)
        · exact cm_bad _ len cap w (by omega) (wn_bad _ len cap w (uo_wide b off len cap z w hm' hB hE)) (fun w1 hb => cvar_wide b off len cap z w1 hm' (hB.keep hb) hE)
        · exact cm_bad _ len cap w (by omega) (wn_bad _ len cap w (uo_slack F b off len cap i0 z w hF hm' hB hE)) (fun w1 hb => cvar_slack b off len cap i0 z w1 hm' (hB.keep hb) hE)
    · have : len = 0 := by omega
      subst this
      exact empty (some x) cap

end Go.Proofs.YbulkaljiFmt
