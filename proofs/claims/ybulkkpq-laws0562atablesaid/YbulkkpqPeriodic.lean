import Derived.Test.YbulkkpqRows
import Derived.WalkKit
import Derived.ProofKit
namespace Go.Proofs.Ybulkkpq.periodic
open Go.ChangeShapes Go.WideShapes Go.ChangeAt Go.RowKit
set_option linter.unusedVariables false

/-- What the switch over the kind answers, as a plain function. -/
def perB (k : Int) : Bool := decide (7 ≤ k ∧ k ≤ 10)

theorem periodic (k : Int) (b c d g f : Value) (w : World) :
    Calls Yba.prog 7 #[.agg #[.int .u8 k, b, c, d, g, f]] w fun e w' => e = .returned (.bool (perB k)) ∧ w' = w.alloc (.cells #[.int .u8 k, b, c, d, g, f] 26) := by
  by_cases h7 : k = 7
  · subst h7
    go_enter Yba.func7, Yba.ntmps7
    go_wp2
    go_ret
    exact ⟨rfl, rfl⟩
  by_cases h8 : k = 8
  · subst h8
    go_enter Yba.func7, Yba.ntmps7
    go_wp2
    go_ret
    exact ⟨rfl, rfl⟩
  by_cases h9 : k = 9
  · subst h9
    go_enter Yba.func7, Yba.ntmps7
    go_wp2
    go_ret
    exact ⟨rfl, rfl⟩
  by_cases h10 : k = 10
  · subst h10
    go_enter Yba.func7, Yba.ntmps7
    go_wp2
    go_ret
    exact ⟨rfl, rfl⟩
  have hp : Hid (perB k = false) := show perB k = false by unfold perB; exact decide_eq_false (by omega)
  have e7 : (k == 7) = false := beq_eq_false_iff_ne.2 h7
  have e8 : (k == 8) = false := beq_eq_false_iff_ne.2 h8
  have e9 : (k == 9) = false := beq_eq_false_iff_ne.2 h9
  have e10 : (k == 10) = false := beq_eq_false_iff_ne.2 h10
  go_enter Yba.func7, Yba.ntmps7
  go_wp2
  go_ret
  rw [hp.out]
  exact ⟨rfl, rfl⟩

end Go.Proofs.Ybulkkpq.periodic
