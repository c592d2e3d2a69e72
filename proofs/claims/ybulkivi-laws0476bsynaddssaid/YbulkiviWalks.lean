/-
  THE WALK of the one callee over the program 'ybulkivi': 'headerLen' computes the plain function 'hl'; and the plain laws on 'hl'.
-/
import Derived.Test.YbulkiviRows
import Derived.WalkKit
import Derived.ProofKit
import Derived.OpenShut
import Derived.ShutString
namespace Go.Proofs.Ybulkivi.Walks
open Go.ChangeShapes Go.WideShapes Go.ChangeAt Go.RowKit

/-- What 'headerLen' computes, wraps and all. -/
def hl (d : Int) : Bool → Int
  | true => wrap64 (4 * d + 4)
  | false => wrap64 (4 * d - 8)

theorem hl_false (d : Int) : wrap64 (wrap64 (4 * d) - 8) = hl d false := by simp only [hl, wrap64]; omega
theorem hl_true (d : Int) : wrap64 (wrap64 (wrap64 (4 * d) - 8) + 12) = hl d true := by simp only [hl, wrap64]; omega

/-! ### THE PLAIN LAWS: no Go in sight -/
theorem exact_true (d : Int) : hl d true = wrap64 (wrap64 (d + 1) * 4) := by simp only [hl, wrap64]; omega
theorem exact_false (d : Int) : hl d false = wrap64 (wrap64 (d - 2) * 4) := by simp only [hl, wrap64]; omega
theorem syn_adds (d : Int) : wrap64 (hl d true - hl d false) = 12 := by simp only [hl, wrap64]; omega
theorem step_true (d : Int) : wrap64 (hl (wrap64 (d + 1)) true - hl d true) = 4 := by simp only [hl, wrap64]; omega
theorem step_false (d : Int) : wrap64 (hl (wrap64 (d + 1)) false - hl d false) = 4 := by simp only [hl, wrap64]; omega

theorem ret_int {k : IntKind} {a b : Int} (h : a = b) : Ending.returned (.int k a) = .returned (.int k b) := by rw [h]

/-! ### THE WALK -/
theorem header (d : Int) (s : Bool) (w : World) :
    Calls Yba.prog 6 #[.int .i64 d, .bool s] w fun e w' => e = .returned (.int .i64 (hl d s)) ∧ w' = w := by
  cases s
  · go_enter Yba.func6, Yba.ntmps6
    go_wp2
    go_ret
    exact ⟨ret_int (hl_false d), rfl⟩
  · go_enter Yba.func6, Yba.ntmps6
    go_wp2
    go_ret
    exact ⟨ret_int (hl_true d), rfl⟩
end Go.Proofs.Ybulkivi.Walks
