/-
  No cell of these rows narrows 'for every input' (looked for: loops, veiled, ifaces, maps, wideKeys, modest, calm, conditions, laid).
  DERIVED. THE GIVEN ROWS OF THIS SEAT. 4 by the template 'for every input the law returns true; each argument reads behind the call as it read before'; 0 by the template 'total and deterministic' (their statements: YbulkkpqTotals.lean).
  GIVEN WITH THE SEED: the statements are not yours to turn. If you find one false, say at which input.
  Laid BY PROGRAM, IN A SANDBOX (cutbox-rows.mjs): the forced cells as the released guide's own fill.sh prints them over the translation d60662332c9e02d1… (all of the seat's roots in one cut). By AI agents, Wed Nov 11 2026. No macro, syntax, notation, axiom, sorry.
-/
import Derived.Test.YbulkkpqChecked
import GoSem.Claim
import GoSem.ClaimJoined
import GoSem.ClaimMapViews
import Derived.JoinedTies
import Derived.KernelRfl
namespace Go.Proofs.Ybulkkpq
/- THE CELL 'sum', in the pinned program and in every row, IS THE sha256 OF THE DUMP (.gsa) THAT YbulkkpqProg.lean LOADS. Nothing in Lean hashes anything: it is a label: what it is worth is what the hold of that sum in a sandbox is worth. -/
noncomputable def Yba.pinned : Pinned := { name := "ybulkkpq", sum := "d60662332c9e02d19fc020234499863d496d2787de179ab25130dbaad7a710ee", checked := Yba.checked }
namespace Rows
def none {H : Type} : Left H := { results := [], args := [] }

/-- 'membership.LawS0562ATable': WHATEVER THE INPUT: true; the input reads as it did. -/
def lawS0562ATableSpec : ChangeSpec := { name := "lawS0562ATable", fn := fun _ => fun
  | [d1, d2, d3, d4, d5, d6] => { results := [.lit (.bool true)], args := [d1, d2, d3, d4, d5, d6] }
  | _ => none }
def lawS0562ATableRow : OpenClaim := { program := "ybulkkpq", sum := "d60662332c9e02d19fc020234499863d496d2787de179ab25130dbaad7a710ee", func := "example.com/reconvene/reconvene/membership.LawS0562ATable", spec := "lawS0562ATable", apart := false }
def LawS0562ATableSaid : Prop := lawS0562ATableRow.holds Yba.pinned (OpenSpec.ofChange lawS0562ATableSpec)

/-- ITS FALSE NEIGHBOUR: 'it returns false'. Refute it at one input. -/
def lawS0562ATableWrong : ChangeSpec := { name := "lawS0562ATable", fn := fun _ => fun
  | [d1, d2, d3, d4, d5, d6] => { results := [.lit (.bool false)], args := [d1, d2, d3, d4, d5, d6] }
  | _ => none }
def LawS0562ATableWrongFalsely : Prop := lawS0562ATableRow.holds Yba.pinned (OpenSpec.ofChange lawS0562ATableWrong)

/-- 'membership.LawS0562AMapped': WHATEVER THE INPUT: true; the input reads as it did. -/
def lawS0562AMappedSpec : ChangeSpec := { name := "lawS0562AMapped", fn := fun _ => fun
  | [d1, d2, d3, d4, d5] => { results := [.lit (.bool true)], args := [d1, d2, d3, d4, d5] }
  | _ => none }
def lawS0562AMappedRow : OpenClaim := { program := "ybulkkpq", sum := "d60662332c9e02d19fc020234499863d496d2787de179ab25130dbaad7a710ee", func := "example.com/reconvene/reconvene/membership.LawS0562AMapped", spec := "lawS0562AMapped", apart := false }
def LawS0562AMappedSaid : Prop := lawS0562AMappedRow.holds Yba.pinned (OpenSpec.ofChange lawS0562AMappedSpec)

/-- ITS FALSE NEIGHBOUR: 'it returns false'. Refute it at one input. -/
def lawS0562AMappedWrong : ChangeSpec := { name := "lawS0562AMapped", fn := fun _ => fun
  | [d1, d2, d3, d4, d5] => { results := [.lit (.bool false)], args := [d1, d2, d3, d4, d5] }
  | _ => none }
def LawS0562AMappedWrongFalsely : Prop := lawS0562AMappedRow.holds Yba.pinned (OpenSpec.ofChange lawS0562AMappedWrong)

/-- 'reconvene.LawS0562CPush': WHATEVER THE INPUT: true; the input reads as it did. -/
def lawS0562CPushSpec : ChangeSpec := { name := "lawS0562CPush", fn := fun _ => fun
  | [d1, d2, d3, d4, d5] => { results := [.lit (.bool true)], args := [d1, d2, d3, d4, d5] }
  | _ => none }
def lawS0562CPushRow : OpenClaim := { program := "ybulkkpq", sum := "d60662332c9e02d19fc020234499863d496d2787de179ab25130dbaad7a710ee", func := "example.com/reconvene/reconvene.LawS0562CPush", spec := "lawS0562CPush", apart := false }
def LawS0562CPushSaid : Prop := lawS0562CPushRow.holds Yba.pinned (OpenSpec.ofChange lawS0562CPushSpec)

/-- ITS FALSE NEIGHBOUR: 'it returns false'. Refute it at one input. -/
def lawS0562CPushWrong : ChangeSpec := { name := "lawS0562CPush", fn := fun _ => fun
  | [d1, d2, d3, d4, d5] => { results := [.lit (.bool false)], args := [d1, d2, d3, d4, d5] }
  | _ => none }
def LawS0562CPushWrongFalsely : Prop := lawS0562CPushRow.holds Yba.pinned (OpenSpec.ofChange lawS0562CPushWrong)

/-- 'reconvene.LawS0562CPushPop': WHATEVER THE INPUT: true; the input reads as it did. -/
def lawS0562CPushPopSpec : ChangeSpec := { name := "lawS0562CPushPop", fn := fun _ => fun
  | [d1, d2, d3, d4, d5] => { results := [.lit (.bool true)], args := [d1, d2, d3, d4, d5] }
  | _ => none }
def lawS0562CPushPopRow : OpenClaim := { program := "ybulkkpq", sum := "d60662332c9e02d19fc020234499863d496d2787de179ab25130dbaad7a710ee", func := "example.com/reconvene/reconvene.LawS0562CPushPop", spec := "lawS0562CPushPop", apart := false }
def LawS0562CPushPopSaid : Prop := lawS0562CPushPopRow.holds Yba.pinned (OpenSpec.ofChange lawS0562CPushPopSpec)

/-- ITS FALSE NEIGHBOUR: 'it returns false'. Refute it at one input. -/
def lawS0562CPushPopWrong : ChangeSpec := { name := "lawS0562CPushPop", fn := fun _ => fun
  | [d1, d2, d3, d4, d5] => { results := [.lit (.bool false)], args := [d1, d2, d3, d4, d5] }
  | _ => none }
def LawS0562CPushPopWrongFalsely : Prop := lawS0562CPushPopRow.holds Yba.pinned (OpenSpec.ofChange lawS0562CPushPopWrong)

end Rows
end Go.Proofs.Ybulkkpq
