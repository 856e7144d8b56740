import Derived.Test.YbulkkruQdef
import Derived.BigQuiet
namespace Go.Proofs.Ybulkkru.cst
open Go.RowKit Go.Proofs.Ybulkkru.net
set_option linter.unusedVariables false

set_option maxHeartbeats 1000000 in
theorem trackedIn_any (N Tb : Nat) (t : Int) (w : World) (h5 : w.cell? ⟨N, 5, none⟩ = some (.slice (some ⟨Tb, 0, none⟩) 1 1)) (h2 : w.cell? ⟨N, 2, none⟩ = some (.slice none 0 0)) :
    Calls Yba.prog 23 #[.pointer (some ⟨N, 0, none⟩), .int .i32 t, .int .i32 0] w fun e w' => e = .returned (.pointer (some ⟨Tb, 0, none⟩)) ∧ Laid w w' := by
  have z1 : IntKind.i64.wrap 0 = 0 := by rw [IntKind.wrap_i64]; rfl
  have z2 : wrap64 0 = 0 := by unfold wrap64; omega
  go_enter Yba.func23, Yba.ntmps23
  go_wp2_with fail
  go_region_held3 (fun w' => w'.cell? ⟨N, 5, none⟩ = some (.slice (some ⟨Tb, 0, none⟩) 1 1) ∧ w'.cell? ⟨N, 2, none⟩ = some (.slice none 0 0)) (exact ⟨h5, h2⟩) (fail)
  go_wp2_with fail
  go_ret
  exact ⟨rfl, (Laid.refl _).drew⟩

end Go.Proofs.Ybulkkru.cst
