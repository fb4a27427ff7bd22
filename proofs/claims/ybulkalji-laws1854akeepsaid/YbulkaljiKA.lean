import Derived.Test.YbulkaljiRows
import Derived.WalkKit
import Derived.Below
namespace Go.Proofs.Ybulkalji
open Go.RowKit
set_option linter.unusedVariables false
set_option linter.unusedSimpArgs false

/-- What zzs1854aprior computes. -/
def prN (zs : List Int) (len k : Nat) : Nat := if k < len then (zs.getD k 0 % 4).toNat else 0

theorem prN_lt (zs : List Int) (len k : Nat) : prN zs len k < 4 := by unfold prN; split <;> omega

theorem prior_out (a : Option Addr) (len cap : Nat) (zs : List Int) (k : Nat) (w : World) (h : ¬ k < len) :
    Calls Yba.prog 5 #[.slice a len cap, .int .i64 k] w fun e w' => e = .returned (.int .i64 (prN zs len k)) ∧ w' = w := by
  have : prN zs len k = 0 := by simp [prN, h]
  rw [this]
  go_enter Yba.func5, Yba.ntmps5
  go_wp2
  go_ret
  exact ⟨rfl, rfl⟩

theorem prior_in (b off len cap : Nat) (zs : List Int) (k : Nat) (w : World) (hm : len ≤ maxLen) (h : k < len) (hc : w.cell? ⟨b, off + k, none⟩ = some (.int .u8 (zs.getD k 0))) (h0 : 0 ≤ zs.getD k 0) (h1 : zs.getD k 0 ≤ 255) :
    Calls Yba.prog 5 #[.slice (some ⟨b, off, none⟩) len cap, .int .i64 k] w fun e w' => e = .returned (.int .i64 (prN zs len k)) ∧ w' = w := by
  have e : ((prN zs len k : Nat) : Int) = zs.getD k 0 % 4 := by simp only [prN, if_pos h]; omega
  rw [e]
  unfold maxLen at hm
  generalize zs.getD k 0 = z at *
  clear e
  go_enter Yba.func5, Yba.ntmps5
  go_wp2
  go_ret
  exact ⟨rfl, rfl⟩
end Go.Proofs.Ybulkalji
