import Derived.Test.YbulkdgpwAScan
namespace Go.Proofs.Ybulkdgpw
open Go.ChangeShapes Go.WideShapes Go.ChangeAt Go.RowKit

theorem has16 (cs : List Int) (col : Int) (b cap B : Nat) (w : World) (hm : cs.length ≤ 1024) (hcs : Conds w b cs) (hB : w.cell? ⟨B, 0, none⟩ = some (.int .i64 col)) (hBl : B < w.heap.size) :
    Calls Yba.prog 16 #[.slice (some ⟨b, 0, none⟩) cs.length cap, .func (.func 17) #[] #[ptrOf B]] w fun e w' => e = .returned (.bool (hasB cs col)) ∧ Below w.heap.size w w' := by
  go_enter Yba.func16, Yba.ntmps16
  go_wp2_with fail
  refine (ixf18 cs col b cap B w hm hcs hB hBl).mono ?_
  rintro e w1 ⟨r, rfl, hr, hb⟩
  have HR : Hid (decide (0 ≤ r) = hasB cs col) := hr
  clear hr
  go_wp2_with fail
  go_ret
  exact ⟨congrArg (fun x => Ending.returned (.bool x)) HR.out, hb⟩

theorem has11 (cs : List Int) (col : Int) (b cap : Nat) (w : World) (hm : cs.length ≤ 1024) (hcs : Conds w b cs) :
    Calls Yba.prog 11 #[.slice (some ⟨b, 0, none⟩) cs.length cap, .int .i64 col] w fun e w' => e = .returned (.bool (hasB cs col)) ∧ Below w.heap.size w w' := by
  go_enter Yba.func11, Yba.ntmps11
  go_wp2_with fail
  have hb0 : Below w.heap.size w (w.alloc (.cells #[.int .i64 col] 3)) := (Below.refl _ _).alloc (Nat.le_refl _) _
  refine (has16 cs col b cap w.heap.size _ hm (hcs.below hb0) (by simp) (by simp)).mono ?_
  rintro e w1 ⟨rfl, hb⟩
  have hb' : Below w.heap.size w w1 := hb0.trans (hb.mono (by simp))
  go_wp2_with fail
  go_ret
  exact ⟨rfl, hb'⟩

/-- An index with the first key column c. -/
def IdxAt (w : World) (g : Nat) (c : Int) : Prop := ∃ T kb, w.heap[g]? = some (.cells #[.string { data := #[105, 120] }, ptrOf T, .int .u32 0, .int .u32 0, .slice (some ⟨kb, 0, none⟩) 1 1, .int .i64 1, .bool false, .slice none 0 0, .slice none 0 0] 40 (0, 0)) ∧
  w.heap[kb]? = some (.cells #[.int .i64 c] 3 (0, 0))

theorem IdxAt.cells {w : World} {g : Nat} {c : Int} (h : IdxAt w g c) : g < w.heap.size ∧ ∃ kb, kb < w.heap.size ∧ w.cell? ⟨g, 4, none⟩ = some (.slice (some ⟨kb, 0, none⟩) 1 1) ∧ w.cell? ⟨kb, 0, none⟩ = some (.int .i64 c) := by
  obtain ⟨T, kb, h1, h2⟩ := h
  exact ⟨(Array.getElem?_eq_some_iff.1 h1).1, kb, (Array.getElem?_eq_some_iff.1 h2).1, by simp [World.cell?, h1], by simp [World.cell?, h2]⟩

theorem IdxAt.below {w w' : World} {g : Nat} {c : Int} (h : IdxAt w g c) (hb : Below w.heap.size w w') : IdxAt w' g c := by
  obtain ⟨T, kb, h1, h2⟩ := h
  exact ⟨T, kb, by rw [hb.block g (Array.getElem?_eq_some_iff.1 h1).1]; exact h1, by rw [hb.block kb (Array.getElem?_eq_some_iff.1 h2).1]; exact h2⟩

theorem col12 (g : Nat) (c : Int) (w : World) (h : IdxAt w g c) :
    Calls Yba.prog 12 #[ptrOf g] w fun e w' => e = .returned (.int .i64 c) ∧ w = w' := by
  obtain ⟨_, kb, _, k1, k2⟩ := h.cells
  clear h
  go_enter Yba.func12, Yba.ntmps12
  go_wp2
  go_ret
  exact ⟨rfl, rfl⟩

set_option maxHeartbeats 800000 in
theorem clo10 (cs : List Int) (g : Nat) (c : Int) (b cap B : Nat) (w : World) (hm : cs.length ≤ 1024) (hcs : Conds w b cs) (hg : IdxAt w g c) (hB : w.cell? ⟨B, 0, none⟩ = some (.slice (some ⟨b, 0, none⟩) cs.length cap)) :
    Calls Yba.prog 10 #[ptrOf g, ptrOf B] w fun e w' => e = .returned (.bool (hasB cs c)) ∧ Below w.heap.size w w' := by
  have hbd : Below w.heap.size w w.drew := (Below.refl _ _).drew
  go_enter Yba.func10, Yba.ntmps10
  go_wp2_with fail
  go_region_with (first | (go_at_call 12; refine (col12 g c _ ?_).mono ?_; exact hg.below hbd; rintro e w' ⟨rfl, rfl⟩) | (go_at_call 11; refine (has11 cs c b cap _ hm ?_).mono ?_; exact hcs.below hbd; rintro e w' ⟨rfl, hb⟩))
  all_goals
    go_wp2_with fail
    go_ret
    exact ⟨rfl, hbd.trans hb⟩
end Go.Proofs.Ybulkdgpw
