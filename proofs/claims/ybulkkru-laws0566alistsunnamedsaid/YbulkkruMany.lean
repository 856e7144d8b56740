import Derived.Test.YbulkkruQdef
import Derived.Below
namespace Go.Proofs.Ybulkkru.cst
open Go.RowKit Go.Proofs Go.Proofs.Ybulkkru.net
set_option linter.unusedVariables false

set_option maxHeartbeats 8000000 in
set_option maxRecDepth 100000 in
/-- More than 1024 of one: it says true at once. -/
theorem lawA_many (v0 v1 v6 v8 v9 v10 v11 : Value) (at0 at1 at2 : Int) (oo co ho bo : Option Addr) (n1 n2 n3 n4 ocap ccap hcap bcap : Nat) (w : World) (h : 1024 < n1 ∨ 1024 < n2 ∨ 1024 < n3 ∨ 1024 < n4) :
    Calls Yba.prog 3 #[v0, v1, .slice oo n1 ocap, .slice co n2 ccap, .agg #[.int .i64 at0, .int .i64 at1, .int .i64 at2], .slice ho n3 hcap, v6, .slice bo n4 bcap, v8, v9, v10, v11] w fun e w' => e = .returned (.bool true) ∧ Below w.heap.size w w' := by
  have hbI : Below w.heap.size w (w.alloc (.cells #[.int .i64 at0, .int .i64 at1, .int .i64 at2] 23)) := (Below.refl _ _).alloc (Nat.le_refl _) _
  by_cases h1 : 1024 < n1
  · have c1 : (1024 : Int) < (n1 : Int) := by omega
    go_enter Yba.func3, Yba.ntmps3
    go_wp2_with fail
    go_ret
    exact ⟨rfl, hbI⟩
  have c1 : ¬ (1024 : Int) < (n1 : Int) := by omega
  by_cases h2 : 1024 < n2
  · have c2 : (1024 : Int) < (n2 : Int) := by omega
    go_enter Yba.func3, Yba.ntmps3
    go_wp2_with fail
    go_ret
    exact ⟨rfl, hbI⟩
  have c2 : ¬ (1024 : Int) < (n2 : Int) := by omega
  by_cases h3 : 1024 < n3
  · have c3 : (1024 : Int) < (n3 : Int) := by omega
    go_enter Yba.func3, Yba.ntmps3
    go_wp2_with fail
    go_ret
    exact ⟨rfl, hbI⟩
  have c3 : ¬ (1024 : Int) < (n3 : Int) := by omega
  have c4 : (1024 : Int) < (n4 : Int) := by omega
  go_enter Yba.func3, Yba.ntmps3
  go_wp2_with fail
  go_ret
  exact ⟨rfl, hbI⟩
end Go.Proofs.Ybulkkru.cst
