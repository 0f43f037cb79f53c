/-
  No cell of these rows narrows 'for every input' (looked for: loops, veiled, ifaces, maps, wideKeys, modest, calm, conditions, laid).
  DERIVED. THE GIVEN ROWS OF THIS SEAT. 3 by the template 'for every input the law returns true; each argument reads behind the call as it read before'; 0 by the template 'total and deterministic' (their statements: YbulkdgpwTotals.lean).
  GIVEN WITH THE SEED: the statements are not yours to turn. If you find one false, say at which input.
  Laid BY PROGRAM, IN A SANDBOX (cutbox-rows.mjs): the forced cells as the released guide's own fill.sh prints them over the translation 758364f0f9cd4adb… (all of the seat's roots in one cut). By AI agents, Wed Nov 11 2026. No macro, syntax, notation, axiom, sorry.
-/
import Derived.Test.YbulkdgpwChecked
import GoSem.Claim
import GoSem.ClaimJoined
import GoSem.ClaimMapViews
import Derived.JoinedTies
import Derived.KernelRfl
namespace Go.Proofs.Ybulkdgpw
/- THE CELL 'sum', in the pinned program and in every row, IS THE sha256 OF THE DUMP (.gsa) THAT YbulkdgpwProg.lean LOADS. Nothing in Lean hashes anything: it is a label: what it is worth is what the hold of that sum in a sandbox is worth. -/
noncomputable def Yba.pinned : Pinned := { name := "ybulkdgpw", sum := "758364f0f9cd4adbfc7a903adfaec2a4fc72b178d58789029ba92097c0f97e54", checked := Yba.checked }
namespace Rows
def none {H : Type} : Left H := { results := [], args := [] }

/-- 'engine.LawS5391AFirstMatch': WHATEVER THE INPUT: true; the input reads as it did. -/
def lawS5391AFirstMatchSpec : ChangeSpec := { name := "lawS5391AFirstMatch", fn := fun _ => fun
  | [d1, d2] => { results := [.lit (.bool true)], args := [d1, d2] }
  | _ => none }
def lawS5391AFirstMatchRow : OpenClaim := { program := "ybulkdgpw", sum := "758364f0f9cd4adbfc7a903adfaec2a4fc72b178d58789029ba92097c0f97e54", func := "example.com/holdfast/holdfast/internal/engine.LawS5391AFirstMatch", spec := "lawS5391AFirstMatch", unfollowed := true, recurses := true, plainKeys := false, apart := false }
def LawS5391AFirstMatchSaid : Prop := lawS5391AFirstMatchRow.holds Yba.pinned (OpenSpec.ofChange lawS5391AFirstMatchSpec)

/-- ITS FALSE NEIGHBOUR: 'it returns false'. Refute it at one input. -/
def lawS5391AFirstMatchWrong : ChangeSpec := { name := "lawS5391AFirstMatch", fn := fun _ => fun
  | [d1, d2] => { results := [.lit (.bool false)], args := [d1, d2] }
  | _ => none }
def LawS5391AFirstMatchWrongFalsely : Prop := lawS5391AFirstMatchRow.holds Yba.pinned (OpenSpec.ofChange lawS5391AFirstMatchWrong)

/-- 'engine.LawS5391ANoConditions': WHATEVER THE INPUT: true; the input reads as it did. -/
def lawS5391ANoConditionsSpec : ChangeSpec := { name := "lawS5391ANoConditions", fn := fun _ => fun
  | [d1, d2] => { results := [.lit (.bool true)], args := [d1, d2] }
  | _ => none }
def lawS5391ANoConditionsRow : OpenClaim := { program := "ybulkdgpw", sum := "758364f0f9cd4adbfc7a903adfaec2a4fc72b178d58789029ba92097c0f97e54", func := "example.com/holdfast/holdfast/internal/engine.LawS5391ANoConditions", spec := "lawS5391ANoConditions", unfollowed := true, recurses := true, plainKeys := false, apart := false }
def LawS5391ANoConditionsSaid : Prop := lawS5391ANoConditionsRow.holds Yba.pinned (OpenSpec.ofChange lawS5391ANoConditionsSpec)

/-- ITS FALSE NEIGHBOUR: 'it returns false'. Refute it at one input. -/
def lawS5391ANoConditionsWrong : ChangeSpec := { name := "lawS5391ANoConditions", fn := fun _ => fun
  | [d1, d2] => { results := [.lit (.bool false)], args := [d1, d2] }
  | _ => none }
def LawS5391ANoConditionsWrongFalsely : Prop := lawS5391ANoConditionsRow.holds Yba.pinned (OpenSpec.ofChange lawS5391ANoConditionsWrong)

/-- 'holdfast.LawS5391CGroups': WHATEVER THE INPUT: true; the input reads as it did. -/
def lawS5391CGroupsSpec : ChangeSpec := { name := "lawS5391CGroups", fn := fun _ => fun
  | [d] => { results := [.lit (.bool true)], args := [d] }
  | _ => none }
def lawS5391CGroupsRow : OpenClaim := { program := "ybulkdgpw", sum := "758364f0f9cd4adbfc7a903adfaec2a4fc72b178d58789029ba92097c0f97e54", func := "example.com/holdfast/holdfast.LawS5391CGroups", spec := "lawS5391CGroups", unfollowed := true, recurses := true, plainKeys := false, apart := false }
def LawS5391CGroupsSaid : Prop := lawS5391CGroupsRow.holds Yba.pinned (OpenSpec.ofChange lawS5391CGroupsSpec)

/-- ITS FALSE NEIGHBOUR: 'it returns false'. Refute it at one input. -/
def lawS5391CGroupsWrong : ChangeSpec := { name := "lawS5391CGroups", fn := fun _ => fun
  | [d] => { results := [.lit (.bool false)], args := [d] }
  | _ => none }
def LawS5391CGroupsWrongFalsely : Prop := lawS5391CGroupsRow.holds Yba.pinned (OpenSpec.ofChange lawS5391CGroupsWrong)

end Rows
end Go.Proofs.Ybulkdgpw
