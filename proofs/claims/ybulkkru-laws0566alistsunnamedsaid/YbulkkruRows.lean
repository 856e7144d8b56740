/-
  No cell of these rows narrows 'for every input' (looked for: loops, veiled, ifaces, maps, wideKeys, modest, calm, conditions, laid).
  DERIVED. THE GIVEN ROWS OF THIS SEAT. 5 by the template 'for every input the law returns true; each argument reads behind the call as it read before'; 0 by the template 'total and deterministic' (their statements: YbulkkruTotals.lean).
  GIVEN WITH THE SEED: the statements are not yours to turn. If you find one false, say at which input.
  Laid BY PROGRAM, IN A SANDBOX (cutbox-rows.mjs): the forced cells as the released guide's own fill.sh prints them over the translation 82fc6d251c43b029… (all of the seat's roots in one cut). By AI agents, Wed Nov 11 2026. No macro, syntax, notation, axiom, sorry.
-/
import Derived.Test.YbulkkruChecked
import GoSem.Claim
import GoSem.ClaimJoined
import GoSem.ClaimMapViews
import Derived.JoinedTies
import Derived.KernelRfl
namespace Go.Proofs.Ybulkkru
/- THE CELL 'sum', in the pinned program and in every row, IS THE sha256 OF THE DUMP (.gsa) THAT YbulkkruProg.lean LOADS. Nothing in Lean hashes anything: it is a label: what it is worth is what the hold of that sum in a sandbox is worth. -/
noncomputable def Yba.pinned : Pinned := { name := "ybulkkru", sum := "82fc6d251c43b029164c65431e318626a5c49b12f549cb94e0aef4cb082676d5", checked := Yba.checked }
namespace Rows
def none {H : Type} : Left H := { results := [], args := [] }

/-- 'planner.LawS0566AListsUnnamed': WHATEVER THE INPUT: true; the input reads as it did. -/
def lawS0566AListsUnnamedSpec : ChangeSpec := { name := "lawS0566AListsUnnamed", fn := fun _ => fun
  | [d1, d2, d3, d4, d5, d6, d7, d8, d9, d10, d11, d12] => { results := [.lit (.bool true)], args := [d1, d2, d3, d4, d5, d6, d7, d8, d9, d10, d11, d12] }
  | _ => none }
def lawS0566AListsUnnamedRow : OpenClaim := { program := "ybulkkru", sum := "82fc6d251c43b029164c65431e318626a5c49b12f549cb94e0aef4cb082676d5", func := "example.com/evenkeel/evenkeel/planner.LawS0566AListsUnnamed", spec := "lawS0566AListsUnnamed", unfollowed := true, recurses := true, plainKeys := false, apart := false }
def LawS0566AListsUnnamedSaid : Prop := lawS0566AListsUnnamedRow.holds Yba.pinned (OpenSpec.ofChange lawS0566AListsUnnamedSpec)

/-- ITS FALSE NEIGHBOUR: 'it returns false'. Refute it at one input. -/
def lawS0566AListsUnnamedWrong : ChangeSpec := { name := "lawS0566AListsUnnamed", fn := fun _ => fun
  | [d1, d2, d3, d4, d5, d6, d7, d8, d9, d10, d11, d12] => { results := [.lit (.bool false)], args := [d1, d2, d3, d4, d5, d6, d7, d8, d9, d10, d11, d12] }
  | _ => none }
def LawS0566AListsUnnamedWrongFalsely : Prop := lawS0566AListsUnnamedRow.holds Yba.pinned (OpenSpec.ofChange lawS0566AListsUnnamedWrong)

/-- 'planner.LawS0566BModel': WHATEVER THE INPUT: true; the input reads as it did. -/
def lawS0566BModelSpec : ChangeSpec := { name := "lawS0566BModel", fn := fun _ => fun
  | [d1, d2, d3, d4, d5, d6, d7] => { results := [.lit (.bool true)], args := [d1, d2, d3, d4, d5, d6, d7] }
  | _ => none }
def lawS0566BModelRow : OpenClaim := { program := "ybulkkru", sum := "82fc6d251c43b029164c65431e318626a5c49b12f549cb94e0aef4cb082676d5", func := "example.com/evenkeel/evenkeel/planner.LawS0566BModel", spec := "lawS0566BModel", plainKeys := false, apart := false }
def LawS0566BModelSaid : Prop := lawS0566BModelRow.holds Yba.pinned (OpenSpec.ofChange lawS0566BModelSpec)

/-- ITS FALSE NEIGHBOUR: 'it returns false'. Refute it at one input. -/
def lawS0566BModelWrong : ChangeSpec := { name := "lawS0566BModel", fn := fun _ => fun
  | [d1, d2, d3, d4, d5, d6, d7] => { results := [.lit (.bool false)], args := [d1, d2, d3, d4, d5, d6, d7] }
  | _ => none }
def LawS0566BModelWrongFalsely : Prop := lawS0566BModelRow.holds Yba.pinned (OpenSpec.ofChange lawS0566BModelWrong)

/-- 'planner.LawS0566BRankAgrees': WHATEVER THE INPUT: true; the input reads as it did. -/
def lawS0566BRankAgreesSpec : ChangeSpec := { name := "lawS0566BRankAgrees", fn := fun _ => fun
  | [d1, d2, d3, d4] => { results := [.lit (.bool true)], args := [d1, d2, d3, d4] }
  | _ => none }
def lawS0566BRankAgreesRow : OpenClaim := { program := "ybulkkru", sum := "82fc6d251c43b029164c65431e318626a5c49b12f549cb94e0aef4cb082676d5", func := "example.com/evenkeel/evenkeel/planner.LawS0566BRankAgrees", spec := "lawS0566BRankAgrees", plainKeys := false, apart := false }
def LawS0566BRankAgreesSaid : Prop := lawS0566BRankAgreesRow.holds Yba.pinned (OpenSpec.ofChange lawS0566BRankAgreesSpec)

/-- ITS FALSE NEIGHBOUR: 'it returns false'. Refute it at one input. -/
def lawS0566BRankAgreesWrong : ChangeSpec := { name := "lawS0566BRankAgrees", fn := fun _ => fun
  | [d1, d2, d3, d4] => { results := [.lit (.bool false)], args := [d1, d2, d3, d4] }
  | _ => none }
def LawS0566BRankAgreesWrongFalsely : Prop := lawS0566BRankAgreesRow.holds Yba.pinned (OpenSpec.ofChange lawS0566BRankAgreesWrong)

/-- 'planner.LawS0566CMoves': WHATEVER THE INPUT: true; the input reads as it did. -/
def lawS0566CMovesSpec : ChangeSpec := { name := "lawS0566CMoves", fn := fun _ => fun
  | [d1, d2, d3, d4, d5, d6, d7, d8, d9] => { results := [.lit (.bool true)], args := [d1, d2, d3, d4, d5, d6, d7, d8, d9] }
  | _ => none }
def lawS0566CMovesRow : OpenClaim := { program := "ybulkkru", sum := "82fc6d251c43b029164c65431e318626a5c49b12f549cb94e0aef4cb082676d5", func := "example.com/evenkeel/evenkeel/planner.LawS0566CMoves", spec := "lawS0566CMoves", plainKeys := false, apart := false }
def LawS0566CMovesSaid : Prop := lawS0566CMovesRow.holds Yba.pinned (OpenSpec.ofChange lawS0566CMovesSpec)

/-- ITS FALSE NEIGHBOUR: 'it returns false'. Refute it at one input. -/
def lawS0566CMovesWrong : ChangeSpec := { name := "lawS0566CMoves", fn := fun _ => fun
  | [d1, d2, d3, d4, d5, d6, d7, d8, d9] => { results := [.lit (.bool false)], args := [d1, d2, d3, d4, d5, d6, d7, d8, d9] }
  | _ => none }
def LawS0566CMovesWrongFalsely : Prop := lawS0566CMovesRow.holds Yba.pinned (OpenSpec.ofChange lawS0566CMovesWrong)

/-- 'planner.LawS0566CIdempotent': WHATEVER THE INPUT: true; the input reads as it did. -/
def lawS0566CIdempotentSpec : ChangeSpec := { name := "lawS0566CIdempotent", fn := fun _ => fun
  | [d1, d2, d3, d4, d5, d6, d7, d8, d9] => { results := [.lit (.bool true)], args := [d1, d2, d3, d4, d5, d6, d7, d8, d9] }
  | _ => none }
def lawS0566CIdempotentRow : OpenClaim := { program := "ybulkkru", sum := "82fc6d251c43b029164c65431e318626a5c49b12f549cb94e0aef4cb082676d5", func := "example.com/evenkeel/evenkeel/planner.LawS0566CIdempotent", spec := "lawS0566CIdempotent", plainKeys := false, apart := false }
def LawS0566CIdempotentSaid : Prop := lawS0566CIdempotentRow.holds Yba.pinned (OpenSpec.ofChange lawS0566CIdempotentSpec)

/-- ITS FALSE NEIGHBOUR: 'it returns false'. Refute it at one input. -/
def lawS0566CIdempotentWrong : ChangeSpec := { name := "lawS0566CIdempotent", fn := fun _ => fun
  | [d1, d2, d3, d4, d5, d6, d7, d8, d9] => { results := [.lit (.bool false)], args := [d1, d2, d3, d4, d5, d6, d7, d8, d9] }
  | _ => none }
def LawS0566CIdempotentWrongFalsely : Prop := lawS0566CIdempotentRow.holds Yba.pinned (OpenSpec.ofChange lawS0566CIdempotentWrong)

end Rows
end Go.Proofs.Ybulkkru
