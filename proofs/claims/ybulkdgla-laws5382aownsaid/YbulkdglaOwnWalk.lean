import Derived.Test.YbulkdglaOwnParts
import Derived.Laws.Concat
namespace Go.Proofs.Ybulkdgla
open Go.ChangeShapes Go.WideShapes Go.ChangeAt Go.RowKit
attribute [local go_sem] eql_same neq_same

set_option maxHeartbeats 800000 in
theorem own_walk (a0 : Int) (a1 : Int) (a2 : ByteArray) (w0 : (Lit.int .u8 a0).wf = true) (w1 : (Lit.int .u8 a1).wf = true) (w2 : a2.size ≤ 140737488351232) (w : World) :
    Calls Yba.prog 3 #[.int .u8 a0, .int .u8 a1, .string a2] w fun e w' => e = .returned (.bool true) ∧ Grown w w' := by
  have hadd : ∀ W, (Op.stringOp .add a2 ({ data := #[111] } : ByteArray)).run Yba.prog W = .ok (.string (a2 ++ { data := #[111] })) W := fun W =>
    run_string_add_sum W a2 _ (by show a2.size + 1 ≤ _; omega)
  go_enter Yba.func3, Yba.ntmps3
  go_wp2_with fail
  refine (build_any a0 a2 w0 _).mono ?_
  rintro e x1 ⟨p1, rfl, b1⟩
  go_wp2_with fail
  refine (build_any a1 _ w1 _).mono ?_
  rintro e x2 ⟨p2, rfl, b2⟩
  have hG : Grown w x2 := grown_trans b1.grown b2.grown
  have hb2 := b2.below
  rcases b1.ptr with rfl | ⟨g1, rfl, hg1, pl1⟩
  · rcases b2.ptr with rfl | ⟨g2, rfl, hg2, pl2⟩
    · clear b1 b2 hadd
      go_wp2_with fail
      refine (own_both_nil _).mono ?_
      rintro e x3 ⟨rfl, rfl⟩
      go_wp2_with fail
      go_ret
      exact ⟨rfl, hG⟩
    · clear b1 b2 hadd
      go_wp2_with fail
      refine (own_outer_nil g2 _).mono ?_
      rintro e x3 ⟨rfl, rfl⟩
      go_wp2_with fail
      go_ret
      exact ⟨rfl, hG⟩
  · rcases b2.ptr with rfl | ⟨g2, rfl, hg2, pl2⟩
    · clear b1 b2 hadd
      go_wp2_with fail
      refine (own_same g1 _).mono ?_
      rintro e x3 ⟨rfl, rfl⟩
      go_wp2_with fail
      go_ret
      exact ⟨rfl, hG⟩
    · have pl1' := pl1.below b2.below
      clear b1 b2 hadd
      have hl := pl1'.lt
      go_wp2_with fail
      refine (own_node x2.heap.size g1 (some ⟨g2, 0, none⟩) _ (by omega) (plainAt_new _ _ _) (pl1'.alloc _) (by simp) (by simp) (by simp)).mono ?_
      rintro e x3 ⟨rfl, rfl⟩
      go_wp2_with fail
      go_ret
      exact ⟨rfl, hG.alloc _ _⟩
end Go.Proofs.Ybulkdgla
