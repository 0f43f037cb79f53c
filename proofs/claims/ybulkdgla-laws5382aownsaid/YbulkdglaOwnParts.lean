import Derived.Test.YbulkdglaPtr
namespace Go.Proofs.Ybulkdgla
open Go.ChangeShapes Go.WideShapes Go.ChangeAt Go.RowKit
attribute [local go_sem] eql_same neq_same

theorem grown_trans {a b c : World} (h : Grown a b) (k : Grown b c) : Grown a c :=
  ⟨World.keptBut_trans h.1 k.1, fun x => (k.2.1 x).trans (h.2.1 x), Nat.le_trans h.2.2 k.2.2⟩

/-- What 'zzs5382abuild' hands back: nil, or a pointer to a new block. -/
structure Built (w w' : World) (p : Option Addr) : Prop where
  grown : Grown w w'
  below : Below w.heap.size w w'
  ptr : p = none ∨ ∃ g, p = some ⟨g, 0, none⟩ ∧ w.heap.size ≤ g ∧ PlainAt w' g

theorem built_new {w w1 : World} (hG : Grown w w1) (hB : Below w.heap.size w w1) {n : Nat} (hn : w1.heap.size = n) (c : Array Value) (t : TypeId) : Built w (w1.alloc (.cells c t)) (some ⟨n, 0, none⟩) := by
  subst hn
  exact ⟨hG.alloc _ _, hB.alloc hB.size _, Or.inr ⟨_, rfl, hB.size, plainAt_new _ _ _⟩⟩

set_option maxHeartbeats 400000 in
theorem build_any (k : Int) (t : ByteArray) (hk : (Lit.int .u8 k).wf = true) (w : World) :
    Calls Yba.prog 7 #[.int .u8 k, .string t] w fun e w' => ∃ p, e = .returned (.pointer p) ∧ Built w w' p := by
  obtain ⟨h0, h1⟩ := bounds_u8 hk
  have hm : k % 4 = 0 ∨ k % 4 = 1 ∨ k % 4 = 2 ∨ k % 4 = 3 := by omega
  have hB := Below.refl w.heap.size w
  have hG := Grown.refl w
  rcases hm with hm | hm | hm | hm
  · go_enter Yba.func7, Yba.ntmps7
    go_wp2
    go_ret
    exact ⟨none, rfl, hG, hB, Or.inl rfl⟩
  · go_enter Yba.func7, Yba.ntmps7
    go_wp2
    go_ret
    exact ⟨some ⟨w.heap.size, 0, none⟩, rfl, built_new hG hB rfl _ _⟩
  · go_enter Yba.func7, Yba.ntmps7
    go_wp2
    go_ret
    exact ⟨some ⟨w.heap.size + 1, 0, none⟩, rfl, built_new (hG.alloc _ _) (hB.alloc (Nat.le_refl _) _) (by simp) _ _⟩
  · go_enter Yba.func7, Yba.ntmps7
    go_wp2
    go_ret
    exact ⟨some ⟨w.heap.size + 1 + 1, 0, none⟩, rfl, built_new ((hG.alloc _ _).alloc _ _) ((hB.alloc (Nat.le_refl _) _).alloc (by simp) _) (by simp) _ _⟩

/-! 'ownDep', way by way. -/
theorem own_both_nil (w : World) :
    Calls Yba.prog 8 #[.pointer none, .pointer none] w fun e w' => e = .returned (.pointer none) ∧ w' = w := by
  go_enter Yba.func8, Yba.ntmps8
  go_wp2
  go_ret
  exact ⟨rfl, rfl⟩
theorem own_same (g : Nat) (w : World) :
    Calls Yba.prog 8 #[.pointer (some ⟨g, 0, none⟩), .pointer (some ⟨g, 0, none⟩)] w fun e w' => e = .returned (.pointer none) ∧ w' = w := by
  go_enter Yba.func8, Yba.ntmps8
  go_wp2
  go_ret
  exact ⟨rfl, rfl⟩
theorem own_outer_nil (g : Nat) (w : World) :
    Calls Yba.prog 8 #[.pointer (some ⟨g, 0, none⟩), .pointer none] w fun e w' => e = .returned (.pointer (some ⟨g, 0, none⟩)) ∧ w' = w := by
  go_enter Yba.func8, Yba.ntmps8
  go_wp2
  go_ret
  exact ⟨rfl, rfl⟩
theorem own_node (d g : Nat) (q : Option Addr) (w : World) (hne : d ≠ g) (hd : PlainAt w d) (hg : PlainAt w g) (c0 : w.cell? ⟨d, 0, none⟩ = some (.int .u8 2)) (c2 : w.cell? ⟨d, 2, none⟩ = some (.pointer (some ⟨g, 0, none⟩)))
    (c3 : w.cell? ⟨d, 3, none⟩ = some (.pointer q)) :
    Calls Yba.prog 8 #[.pointer (some ⟨d, 0, none⟩), .pointer (some ⟨g, 0, none⟩)] w fun e w' => e = .returned (.pointer q) ∧ w' = w := by
  have he := eql_other (a := ⟨d, 0, none⟩) (b := ⟨g, 0, none⟩) (fun h => hne (by cases h; rfl)) hd hg
  go_enter Yba.func8, Yba.ntmps8
  go_wp2
  go_ret
  exact ⟨rfl, rfl⟩
end Go.Proofs.Ybulkdgla
