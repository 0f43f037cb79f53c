import Derived.Test.YbulkdglaRows
import Derived.WalkKit
import Derived.ProofKit
import Derived.OpenShut
import Derived.WalkLawsBesides
import Derived.LaidEqlPtr
namespace Go.Proofs.Ybulkdgla
open Go.ChangeShapes Go.WideShapes Go.ChangeAt Go.RowKit

/-! ### Two pointers to 'expr' compared -/
theorem size27 : (Yba.prog.info? 27).map (fun i => i.size) = some 6 := by kernel_rfl

/-- Block b is a row of cells, none of them frozen. -/
def PlainAt (w : World) (b : Nat) : Prop := ∃ c t, w.heap[b]? = some (.cells c t (0, 0))

theorem PlainAt.lt {w : World} {b : Nat} (h : PlainAt w b) : b < w.heap.size := by
  obtain ⟨c, t, h⟩ := h
  exact (Array.getElem?_eq_some_iff.1 h).1

theorem plainAt_new (w : World) (c : Array Value) (t : TypeId) : PlainAt (w.alloc (.cells c t)) w.heap.size :=
  ⟨c, t, (MapKept.heap_alloc w _).1⟩

theorem PlainAt.alloc {w : World} {b : Nat} (h : PlainAt w b) (o : Obj) : PlainAt (w.alloc o) b := by
  have hl := h.lt
  obtain ⟨c, t, h⟩ := h
  exact ⟨c, t, by rw [Below.heap_alloc _ _ _ hl]; exact h⟩

theorem PlainAt.below {w w' : World} {b : Nat} (h : PlainAt w b) (hb : Below w.heap.size w w') : PlainAt w' b := by
  have hl := h.lt
  obtain ⟨c, t, h⟩ := h
  exact ⟨c, t, by rw [hb.block b hl]; exact h⟩

theorem eql_same (a : Addr) (w : World) : (binOp .eql 22 (.pointer (some a)) (.pointer (some a))).run Yba.prog w = .ok (.bool true) w := by
  obtain ⟨j, hj, _⟩ := Option.map_eq_some_iff.1 size27
  exact run_eql_ptr_same w a Yba.underlying22 hj

theorem eql_other {a b : Addr} {w : World} (hne : a ≠ b) (ha : PlainAt w a.block) (hb : PlainAt w b.block) : (binOp .eql 22 (.pointer (some a)) (.pointer (some b))).run Yba.prog w = .ok (.bool false) w := by
  obtain ⟨j, hj, hs⟩ := Option.map_eq_some_iff.1 size27
  obtain ⟨ca, ta, ha⟩ := ha
  obtain ⟨cb, tb, hb⟩ := hb
  exact run_eql_ptr_other w Yba.underlying22 hj (by omega) hne ha hb

theorem equal_same (a : Addr) (w : World) : (Op.equal 22 (.pointer (some a)) (.pointer (some a))).run Yba.prog w = .ok true w := by
  obtain ⟨j, hj, _⟩ := Option.map_eq_some_iff.1 size27
  have h : ∀ d : Nat, (Op.equalIn (d + 1) 22 (.pointer (some a)) (.pointer (some a))).run Yba.prog w = .ok true w := fun d => by
    simp [Op.equalIn, run_underlying Yba.underlying22, sizeOf, typeInfo, hj, run_sameAddr_same]
  exact h 9999

theorem neq_same (a : Addr) (w : World) : (binOp .neq 22 (.pointer (some a)) (.pointer (some a))).run Yba.prog w = .ok (.bool false) w := by
  simp only [binOp]
  simp [equal_same a w]

theorem equal_other {a b : Addr} {w : World} (hne : a ≠ b) (ha : PlainAt w a.block) (hb : PlainAt w b.block) : (Op.equal 22 (.pointer (some a)) (.pointer (some b))).run Yba.prog w = .ok false w := by
  obtain ⟨j, hj, hs⟩ := Option.map_eq_some_iff.1 size27
  obtain ⟨ca, ta, ha⟩ := ha
  obtain ⟨cb, tb, hb⟩ := hb
  have hz : j.size ≠ 0 := by omega
  have h : ∀ d : Nat, (Op.equalIn (d + 1) 22 (.pointer (some a)) (.pointer (some b))).run Yba.prog w = .ok false w := fun d => by
    simp [Op.equalIn, run_underlying Yba.underlying22, sizeOf, typeInfo, hj, hz, run_sameAddr_other w hne ha hb]
  exact h 9999

theorem neq_other {a b : Addr} {w : World} (hne : a ≠ b) (ha : PlainAt w a.block) (hb : PlainAt w b.block) : (binOp .neq 22 (.pointer (some a)) (.pointer (some b))).run Yba.prog w = .ok (.bool true) w := by
  simp only [binOp]
  simp [equal_other hne ha hb]
end Go.Proofs.Ybulkdgla
