/-
  No cell of these rows narrows 'for every input' (looked for: loops, veiled, ifaces, maps, wideKeys, modest, calm, conditions, laid).
  DERIVED. THE GIVEN ROWS OF THIS SEAT. 2 by the template 'for every input the law returns true; each argument reads behind the call as it read before'; 0 by the template 'total and deterministic' (their statements: YbulkdgpiTotals.lean).
  GIVEN WITH THE SEED: the statements are not yours to turn. If you find one false, say at which input.
  Laid BY PROGRAM, IN A SANDBOX (cutbox-rows.mjs): the forced cells as the released guide's own fill.sh prints them over the translation 0bc16639dee9d519… (all of the seat's roots in one cut). By AI agents, Wed Nov 11 2026. No macro, syntax, notation, axiom, sorry.
-/
import Derived.Test.YbulkdgpiChecked
import GoSem.Claim
import GoSem.ClaimJoined
import GoSem.ClaimMapViews
import Derived.JoinedTies
import Derived.KernelRfl
namespace Go.Proofs.Ybulkdgpi
/- THE CELL 'sum', in the pinned program and in every row, IS THE sha256 OF THE DUMP (.gsa) THAT YbulkdgpiProg.lean LOADS. Nothing in Lean hashes anything: it is a label: what it is worth is what the hold of that sum in a sandbox is worth. -/
noncomputable def Yba.pinned : Pinned := { name := "ybulkdgpi", sum := "0bc16639dee9d519bc86652eaf2d8ca0e18ea2c49f781aa9824d98c902c3917e", checked := Yba.checked }
namespace Rows
def none {H : Type} : Left H := { results := [], args := [] }

/-- 'tailorbird.LawS5390AModel': WHATEVER THE INPUT: true; the input reads as it did. -/
def lawS5390AModelSpec : ChangeSpec := { name := "lawS5390AModel", fn := fun _ => fun
  | [d1, d2] => { results := [.lit (.bool true)], args := [d1, d2] }
  | _ => none }
def lawS5390AModelRow : OpenClaim := { program := "ybulkdgpi", sum := "0bc16639dee9d519bc86652eaf2d8ca0e18ea2c49f781aa9824d98c902c3917e", func := "example.com/tailorbird/tailorbird.LawS5390AModel", spec := "lawS5390AModel", apart := false }
def LawS5390AModelSaid : Prop := lawS5390AModelRow.holds Yba.pinned (OpenSpec.ofChange lawS5390AModelSpec)

/-- ITS FALSE NEIGHBOUR: 'it returns false'. Refute it at one input. -/
def lawS5390AModelWrong : ChangeSpec := { name := "lawS5390AModel", fn := fun _ => fun
  | [d1, d2] => { results := [.lit (.bool false)], args := [d1, d2] }
  | _ => none }
def LawS5390AModelWrongFalsely : Prop := lawS5390AModelRow.holds Yba.pinned (OpenSpec.ofChange lawS5390AModelWrong)

/-- 'tailorbird.LawS5390ABuilt': WHATEVER THE INPUT: true; the input reads as it did. -/
def lawS5390ABuiltSpec : ChangeSpec := { name := "lawS5390ABuilt", fn := fun _ => fun
  | [d1, d2, d3, d4] => { results := [.lit (.bool true)], args := [d1, d2, d3, d4] }
  | _ => none }
def lawS5390ABuiltRow : OpenClaim := { program := "ybulkdgpi", sum := "0bc16639dee9d519bc86652eaf2d8ca0e18ea2c49f781aa9824d98c902c3917e", func := "example.com/tailorbird/tailorbird.LawS5390ABuilt", spec := "lawS5390ABuilt", apart := false }
def LawS5390ABuiltSaid : Prop := lawS5390ABuiltRow.holds Yba.pinned (OpenSpec.ofChange lawS5390ABuiltSpec)

/-- ITS FALSE NEIGHBOUR: 'it returns false'. Refute it at one input. -/
def lawS5390ABuiltWrong : ChangeSpec := { name := "lawS5390ABuilt", fn := fun _ => fun
  | [d1, d2, d3, d4] => { results := [.lit (.bool false)], args := [d1, d2, d3, d4] }
  | _ => none }
def LawS5390ABuiltWrongFalsely : Prop := lawS5390ABuiltRow.holds Yba.pinned (OpenSpec.ofChange lawS5390ABuiltWrong)

end Rows
end Go.Proofs.Ybulkdgpi
