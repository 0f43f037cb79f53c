import Derived.Test.YbulkdgpwRows
import Derived.WalkKit
import Derived.ProofKit
import Derived.OpenShut
import Derived.WalkLawsBesides
import Derived.WalkSpells
import Derived.LaidEqlPtr
import Derived.Deep.QuietTactic
import Derived.BigQuiet
import Derived.Deep.RegionWith
namespace Go.Proofs.Ybulkdgpw
open Go.ChangeShapes Go.WideShapes Go.ChangeAt Go.RowKit

/-- A pointer to the head of block g. -/
abbrev ptrOf (g : Nat) : Value := .pointer (some ⟨g, 0, none⟩)

/-- A condition's cells. -/
abbrev condCells (c : Int) : Array Value := #[.nilFunc, .nilFunc, .int .u8 0, .slice none 0 0, .int .i64 c, .nilIface]

/-- 'func(c condition) bool { return c.column == column }', column captured. -/
theorem clo17 (c col : Int) (B : Nat) (w : World) (hB : w.cell? ⟨B, 0, none⟩ = some (.int .i64 col)) (hBl : B < w.heap.size) :
    Calls Yba.prog 17 #[.agg (condCells c), ptrOf B] w fun e w' => e = .returned (.bool (c == col)) ∧ Below w.heap.size w w' := by
  have hB' : ∀ o, (w.alloc o).cell? ⟨B, 0, none⟩ = some (.int .i64 col) := fun o => by rw [World.cell?_alloc_lt]; exact hB; exact hBl
  go_enter Yba.func17, Yba.ntmps17
  go_wp2
  go_ret
  exact ⟨rfl, (Below.refl _ _).alloc (Nat.le_refl _) _⟩
end Go.Proofs.Ybulkdgpw
