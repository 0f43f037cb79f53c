import Derived.Test.YbulkdglaPtr
namespace Go.Proofs.Ybulkdgla
open Go.ChangeShapes Go.WideShapes Go.ChangeAt Go.RowKit
attribute [local go_sem] eql_same neq_same

/-- The cells of a leaf with the constant t. -/
abbrev leafCells (t : ByteArray) : Array Value := #[.int .u8 0, .int .i32 0, .pointer none, .pointer none, .pointer none, .string t]

theorem leafok_any (g : Nat) (t : ByteArray) (w : World) (c0 : w.cell? ⟨g, 0, none⟩ = some (.int .u8 0)) (c1 : w.cell? ⟨g, 1, none⟩ = some (.int .i32 0)) (c2 : w.cell? ⟨g, 2, none⟩ = some (.pointer none))
    (c3 : w.cell? ⟨g, 3, none⟩ = some (.pointer none)) (c4 : w.cell? ⟨g, 4, none⟩ = some (.pointer none)) (c5 : w.cell? ⟨g, 5, none⟩ = some (.string t)) :
    Calls Yba.prog 11 #[.pointer (some ⟨g, 0, none⟩), .string t] w fun e w' => e = .returned (.bool true) ∧ w' = w := by
  go_enter Yba.func11, Yba.ntmps11
  go_wp2
  go_ret
  exact ⟨rfl, rfl⟩

set_option maxHeartbeats 800000 in
theorem node_walk (a0 a1 : Bool) (a2 a3 : ByteArray) (w : World) :
    Calls Yba.prog 5 #[.bool a0, .bool a1, .string a2, .string a3] w fun e w' => e = .returned (.bool true) ∧ Grown w w' := by
  have hG := Grown.refl w
  cases a0 <;> cases a1
  · have hra := eql_other (w := ((w.alloc (.cells (leafCells a2) 27)).alloc (.cells (leafCells a3) 27)).alloc (.cells #[.int .u8 2, .int .i32 0, .pointer (some ⟨w.heap.size, 0, none⟩), .pointer (some ⟨w.heap.size + 1, 0, none⟩), .pointer none, .string { data := #[] }] 27)) (a := ⟨w.heap.size + 1 + 1, 0, none⟩) (b := ⟨w.heap.size, 0, none⟩)
      (fun h => by injection h with h; omega) (by have := plainAt_new ((w.alloc (.cells (leafCells a2) 27)).alloc (.cells (leafCells a3) 27)) #[.int .u8 2, .int .i32 0, .pointer (some ⟨w.heap.size, 0, none⟩), .pointer (some ⟨w.heap.size + 1, 0, none⟩), .pointer none, .string { data := #[] }] 27; simpa using this) (((plainAt_new _ _ _).alloc _).alloc _)
    have hrb := eql_other (w := ((w.alloc (.cells (leafCells a2) 27)).alloc (.cells (leafCells a3) 27)).alloc (.cells #[.int .u8 2, .int .i32 0, .pointer (some ⟨w.heap.size, 0, none⟩), .pointer (some ⟨w.heap.size + 1, 0, none⟩), .pointer none, .string { data := #[] }] 27)) (a := ⟨w.heap.size + 1 + 1, 0, none⟩) (b := ⟨w.heap.size + 1, 0, none⟩)
      (fun h => by injection h with h; omega) (by have := plainAt_new ((w.alloc (.cells (leafCells a2) 27)).alloc (.cells (leafCells a3) 27)) #[.int .u8 2, .int .i32 0, .pointer (some ⟨w.heap.size, 0, none⟩), .pointer (some ⟨w.heap.size + 1, 0, none⟩), .pointer none, .string { data := #[] }] 27; simpa using this) (by have := (plainAt_new (w.alloc (.cells (leafCells a2) 27)) (leafCells a3) 27).alloc (.cells #[.int .u8 2, .int .i32 0, .pointer (some ⟨w.heap.size, 0, none⟩), .pointer (some ⟨w.heap.size + 1, 0, none⟩), .pointer none, .string { data := #[] }] 27); simpa using this)
    go_enter Yba.func5, Yba.ntmps5
    go_wp2_with (first | (go_at_call 11; refine (leafok_any _ _ _ (by simp) (by simp) (by simp) (by simp) (by simp) (by simp)).mono ?_; rintro e w' ⟨rfl, rfl⟩) | go_in)
    go_ret
    exact ⟨rfl, ((hG.alloc _ _).alloc _ _).alloc _ _⟩
  · go_enter Yba.func5, Yba.ntmps5
    go_wp2_with (first | (go_at_call 11; refine (leafok_any _ _ _ (by simp) (by simp) (by simp) (by simp) (by simp) (by simp)).mono ?_; rintro e w' ⟨rfl, rfl⟩) | go_in)
    go_ret
    exact ⟨rfl, hG.alloc _ _⟩
  · go_enter Yba.func5, Yba.ntmps5
    go_wp2_with (first | (go_at_call 11; refine (leafok_any _ _ _ (by simp) (by simp) (by simp) (by simp) (by simp) (by simp)).mono ?_; rintro e w' ⟨rfl, rfl⟩) | go_in)
    go_ret
    exact ⟨rfl, hG.alloc _ _⟩
  · go_enter Yba.func5, Yba.ntmps5
    go_wp2
    go_ret
    exact ⟨rfl, hG⟩
end Go.Proofs.Ybulkdgla
