import Derived.Test.YbulkkruLit
namespace Go.Proofs.Ybulkkru.cst
open Go.RowKit Go.Proofs Go.Proofs.Ybulkkru.net
set_option linter.unusedVariables false

/-- What of a body begins with region n. -/
def tailAt (n : Nat) : Code → Code
  | .seq a b => match firstReg a == some n with
    | true => .seq a b
    | false => tailAt n b
  | c => c
noncomputable def C38 : Code := tailAt 38 (Yba.f3.body.getD .skip)
noncomputable def C68 : Code := tailAt 68 (Yba.f3.body.getD .skip)
noncomputable def C82 : Code := tailAt 82 (Yba.f3.body.getD .skip)
noncomputable def C88 : Code := tailAt 88 (Yba.f3.body.getD .skip)
noncomputable def C97 : Code := tailAt 97 (Yba.f3.body.getD .skip)
/-- What the law's body is to leave. -/
def LawPost (w0 : World) : Exit → Act → World → Prop := bodyPost Yba.prog Yba.f3 fun e w' => e = .returned (.bool true) ∧ Below w0.heap.size w0 w'
end Go.Proofs.Ybulkkru.cst
