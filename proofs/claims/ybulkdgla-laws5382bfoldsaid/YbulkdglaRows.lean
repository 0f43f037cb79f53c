/-
  No cell of these rows narrows 'for every input' (looked for: loops, veiled, ifaces, maps, wideKeys, modest, calm, conditions, laid).
  DERIVED. THE GIVEN ROWS OF THIS SEAT. 4 by the template 'for every input the law returns true; each argument reads behind the call as it read before'; 0 by the template 'total and deterministic' (their statements: YbulkdglaTotals.lean).
  GIVEN WITH THE SEED: the statements are not yours to turn. If you find one false, say at which input.
  Laid BY PROGRAM, IN A SANDBOX (cutbox-rows.mjs): the forced cells as the released guide's own fill.sh prints them over the translation 6ba51a065c208b1b… (all of the seat's roots in one cut). By AI agents, Wed Nov 11 2026. No macro, syntax, notation, axiom, sorry.
-/
import Derived.Test.YbulkdglaChecked
import GoSem.Claim
import GoSem.ClaimJoined
import GoSem.ClaimMapViews
import Derived.JoinedTies
import Derived.KernelRfl
namespace Go.Proofs.Ybulkdgla
/- THE CELL 'sum', in the pinned program and in every row, IS THE sha256 OF THE DUMP (.gsa) THAT YbulkdglaProg.lean LOADS. Nothing in Lean hashes anything: it is a label: what it is worth is what the hold of that sum in a sandbox is worth. -/
noncomputable def Yba.pinned : Pinned := { name := "ybulkdgla", sum := "6ba51a065c208b1b5260d739a18431b5b1f60fbbdddfa29868c603c438485bb5", checked := Yba.checked }
namespace Rows
def none {H : Type} : Left H := { results := [], args := [] }

/-- 'tristate.LawS5382AOwn': WHATEVER THE INPUT: true; the input reads as it did. -/
def lawS5382AOwnSpec : ChangeSpec := { name := "lawS5382AOwn", fn := fun _ => fun
  | [d1, d2, d3] => { results := [.lit (.bool true)], args := [d1, d2, d3] }
  | _ => none }
def lawS5382AOwnRow : OpenClaim := { program := "ybulkdgla", sum := "6ba51a065c208b1b5260d739a18431b5b1f60fbbdddfa29868c603c438485bb5", func := "example.com/tristate/tristate.LawS5382AOwn", spec := "lawS5382AOwn", apart := false }
def LawS5382AOwnSaid : Prop := lawS5382AOwnRow.holds Yba.pinned (OpenSpec.ofChange lawS5382AOwnSpec)

/-- ITS FALSE NEIGHBOUR: 'it returns false'. Refute it at one input. -/
def lawS5382AOwnWrong : ChangeSpec := { name := "lawS5382AOwn", fn := fun _ => fun
  | [d1, d2, d3] => { results := [.lit (.bool false)], args := [d1, d2, d3] }
  | _ => none }
def LawS5382AOwnWrongFalsely : Prop := lawS5382AOwnRow.holds Yba.pinned (OpenSpec.ofChange lawS5382AOwnWrong)

/-- 'tristate.LawS5382ASame': WHATEVER THE INPUT: true; the input reads as it did. -/
def lawS5382ASameSpec : ChangeSpec := { name := "lawS5382ASame", fn := fun _ => fun
  | [d1, d2] => { results := [.lit (.bool true)], args := [d1, d2] }
  | _ => none }
def lawS5382ASameRow : OpenClaim := { program := "ybulkdgla", sum := "6ba51a065c208b1b5260d739a18431b5b1f60fbbdddfa29868c603c438485bb5", func := "example.com/tristate/tristate.LawS5382ASame", spec := "lawS5382ASame", apart := false }
def LawS5382ASameSaid : Prop := lawS5382ASameRow.holds Yba.pinned (OpenSpec.ofChange lawS5382ASameSpec)

/-- ITS FALSE NEIGHBOUR: 'it returns false'. Refute it at one input. -/
def lawS5382ASameWrong : ChangeSpec := { name := "lawS5382ASame", fn := fun _ => fun
  | [d1, d2] => { results := [.lit (.bool false)], args := [d1, d2] }
  | _ => none }
def LawS5382ASameWrongFalsely : Prop := lawS5382ASameRow.holds Yba.pinned (OpenSpec.ofChange lawS5382ASameWrong)

/-- 'tristate.LawS5382BNilAndNode': WHATEVER THE INPUT: true; the input reads as it did. -/
def lawS5382BNilAndNodeSpec : ChangeSpec := { name := "lawS5382BNilAndNode", fn := fun _ => fun
  | [d1, d2, d3, d4] => { results := [.lit (.bool true)], args := [d1, d2, d3, d4] }
  | _ => none }
def lawS5382BNilAndNodeRow : OpenClaim := { program := "ybulkdgla", sum := "6ba51a065c208b1b5260d739a18431b5b1f60fbbdddfa29868c603c438485bb5", func := "example.com/tristate/tristate.LawS5382BNilAndNode", spec := "lawS5382BNilAndNode", apart := false }
def LawS5382BNilAndNodeSaid : Prop := lawS5382BNilAndNodeRow.holds Yba.pinned (OpenSpec.ofChange lawS5382BNilAndNodeSpec)

/-- ITS FALSE NEIGHBOUR: 'it returns false'. Refute it at one input. -/
def lawS5382BNilAndNodeWrong : ChangeSpec := { name := "lawS5382BNilAndNode", fn := fun _ => fun
  | [d1, d2, d3, d4] => { results := [.lit (.bool false)], args := [d1, d2, d3, d4] }
  | _ => none }
def LawS5382BNilAndNodeWrongFalsely : Prop := lawS5382BNilAndNodeRow.holds Yba.pinned (OpenSpec.ofChange lawS5382BNilAndNodeWrong)

/-- 'tristate.LawS5382BFold': WHATEVER THE INPUT: true; the input reads as it did. -/
def lawS5382BFoldSpec : ChangeSpec := { name := "lawS5382BFold", fn := fun _ => fun
  | [d] => { results := [.lit (.bool true)], args := [d] }
  | _ => none }
def lawS5382BFoldRow : OpenClaim := { program := "ybulkdgla", sum := "6ba51a065c208b1b5260d739a18431b5b1f60fbbdddfa29868c603c438485bb5", func := "example.com/tristate/tristate.LawS5382BFold", spec := "lawS5382BFold", recurses := true, apart := false }
def LawS5382BFoldSaid : Prop := lawS5382BFoldRow.holds Yba.pinned (OpenSpec.ofChange lawS5382BFoldSpec)

/-- ITS FALSE NEIGHBOUR: 'it returns false'. Refute it at one input. -/
def lawS5382BFoldWrong : ChangeSpec := { name := "lawS5382BFold", fn := fun _ => fun
  | [d] => { results := [.lit (.bool false)], args := [d] }
  | _ => none }
def LawS5382BFoldWrongFalsely : Prop := lawS5382BFoldRow.holds Yba.pinned (OpenSpec.ofChange lawS5382BFoldWrong)

end Rows
end Go.Proofs.Ybulkdgla
