import Derived.Test.YbulkdglaFoldParts
namespace Go.Proofs.Ybulkdgla
open Go.ChangeShapes Go.WideShapes Go.ChangeAt Go.RowKit

theorem flat_leaf (w0 w : World) (g : Nat) (hg : LeafAt w0 g) (hb : Below w0.heap.size w0 w) (v : Value) (n : Nat) (xs : List Value) (hown : w.ownsRow w0.heap.size 22 1 v n xs) (hn : n ≤ 4000) :
    Calls Yba.prog 13 #[.pointer (some ⟨g, 0, none⟩), v] w fun e w' => ∃ v', e = .returned v' ∧ w'.ownsRow w0.heap.size 22 1 v' (n + 1) (xs ++ [ptrOf g]) ∧ Below w0.heap.size w0 w' := by
  obtain ⟨i0, hi, hz0, hz1, hz2⟩ := info_parts info22
  have c0 : w.cell? ⟨g, 0, none⟩ = some (.int .u8 0) := (hb.cell (p := ⟨g, 0, none⟩) hg.lt).trans hg.op
  have hsz := hb.size
  go_enter Yba.func13, Yba.ntmps13
  go_wp2_with (at_builtin; refine wpList_append_own _ rfl _ _ 35 rfl w0.heap.size 22 i0 (.pointer none) 1 8 Yba.underlying35 hi hz0 hz1 hz2 rfl (by decide) v n xs rfl (hown.alloc _) ⟨w.heap.size, 0, none⟩ 1 1 [ptrOf g] rfl rfl (cell_one_new _ _ _) (by simp [Value.oneCell']) (by unfold maxLen; omega) (by omega) (by simp; omega) ?_; intro v' w1 hown' hgrow _)
  go_ret
  exact ⟨_, rfl, hown', (hb.alloc hsz _).grown hgrow (by simp; omega) (fun k hk => (hown.lt k hk).1)⟩

theorem flat_any (w0 : World) (gs : List Nat) : ∀ (p : Option Addr) (w : World) (v : Value) (n : Nat) (xs : List Value), Flat w0 gs p → Below w0.heap.size w0 w → w.ownsRow w0.heap.size 22 1 v n xs → n + gs.length ≤ 4000 →
    Calls Yba.prog 13 #[.pointer p, v] w fun e w' => ∃ v', e = .returned v' ∧ w'.ownsRow w0.heap.size 22 1 v' (n + gs.length) (xs ++ gs.reverse.map ptrOf) ∧ Below w0.heap.size w0 w' := by
  induction gs with
  | nil =>
    intro p w v n xs hf hb hown hn
    obtain rfl : p = none := hf
    go_enter Yba.func13, Yba.ntmps13
    go_wp2_with fail
    go_ret
    exact ⟨_, rfl, by simpa using hown, hb⟩
  | cons g r ih =>
    intro p w v n xs hf hb hown hn
    cases r with
    | nil =>
      obtain ⟨rfl, hg⟩ := hf
      refine (flat_leaf w0 w g hg hb v n xs hown (by simp at hn; omega)).mono ?_
      rintro e w' ⟨v', rfl, h1, h2⟩
      exact ⟨_, rfl, by simpa using h1, h2⟩
    | cons h r =>
      obtain ⟨d, q, rfl, hd, hg, hr⟩ := hf
      obtain ⟨k0, k2, k3⟩ := hd.cells
      have c0 := (hb.cell (p := ⟨d, 0, none⟩) hd.lt).trans k0
      have c2 := (hb.cell (p := ⟨d, 2, none⟩) hd.lt).trans k2
      clear k0 k2
      have hn' : n + (h :: r).length + 1 ≤ 4000 := by simp at hn ⊢; omega
      go_enter Yba.func13, Yba.ntmps13
      go_wp2_with fail
      refine (ih q w v n xs hr hb hown (by omega)).mono ?_
      rintro e w1 ⟨v1, rfl, hown1, hb1⟩
      have c3 := (hb1.cell (p := ⟨d, 3, none⟩) hd.lt).trans k3
      clear c0 c2
      go_wp2_with fail
      refine (flat_leaf w0 w1 g hg hb1 v1 _ _ hown1 (by omega)).mono ?_
      rintro e w2 ⟨v2, rfl, hown2, hb2⟩
      go_wp2_with fail
      go_ret
      exact ⟨_, rfl, by simpa [Nat.add_assoc] using hown2, hb2⟩

/-- As the law calls it: with nil, at a tree that has a leaf. -/
theorem flat_top (w : World) (gs : List Nat) (p : Option Addr) (hf : Flat w gs p) (hp : 0 < gs.length) (hn : gs.length ≤ 4000) :
    Calls Yba.prog 13 #[.pointer p, .slice none 0 0] w fun e w' => ∃ g cap, e = .returned (.slice (some ⟨g, 0, none⟩) gs.length cap) ∧ (∀ j, j < gs.length → w'.cell? ⟨g, j, none⟩ = some (ptrOf (gs.reverse.getD j 0))) ∧ Below w.heap.size w w' := by
  refine (flat_any w gs p w (.slice none 0 0) 0 [] hf (Below.refl _ _) (World.ownsRow_nil _ _ _ _) (by omega)).mono ?_
  rintro e w' ⟨v, rfl, hown, hb⟩
  rcases hown.2 with ⟨_, h0⟩ | ⟨g, cap, cur, hv, _⟩
  · omega
  · subst hv
    simp only [Nat.zero_add, List.nil_append] at hown
    refine ⟨g, cap, by simp, fun j hj => ?_, hb⟩
    rw [hown.cellAt j (by simpa using hj)]
    simp [hj, List.getD]
end Go.Proofs.Ybulkdgla
