import Derived.Test.YbulkdgpwAParts
namespace Go.Proofs.Ybulkdgpw
open Go.ChangeShapes Go.WideShapes Go.ChangeAt Go.RowKit

/-- The conditions lie in block b. -/
def Conds (w : World) (b : Nat) (cs : List Int) : Prop := b < w.heap.size ∧ ∀ j, j < cs.length → (w.cell? ⟨b, j * 6, none⟩ = some .nilFunc ∧ w.cell? ⟨b, j * 6 + 1, none⟩ = some .nilFunc ∧ w.cell? ⟨b, j * 6 + 2, none⟩ = some (.int .u8 0) ∧
  w.cell? ⟨b, j * 6 + 3, none⟩ = some (.slice none 0 0) ∧ w.cell? ⟨b, j * 6 + 4, none⟩ = some (.int .i64 (cs.getD j 0)) ∧ w.cell? ⟨b, j * 6 + 5, none⟩ = some .nilIface)

theorem Conds.below {w w' : World} {b : Nat} {cs : List Int} (h : Conds w b cs) (hb : Below w.heap.size w w') : Conds w' b cs := by
  refine ⟨Nat.lt_of_lt_of_le h.1 hb.size, fun j hj => ?_⟩
  have e : ∀ o, w'.cell? ⟨b, o, none⟩ = w.cell? ⟨b, o, none⟩ := fun o => hb.cell (p := ⟨b, o, none⟩) h.1
  simp only [e]
  exact h.2 j hj

/-- Some condition is on the column. -/
def hasB (cs : List Int) (col : Int) : Bool := cs.contains col

theorem contains_hit (cs : List Int) (col : Int) (k : Nat) (hk : k < cs.length) (h : cs.getD k 0 = col) : hasB cs col = true := by
  unfold hasB
  have : cs[k] = col := by simpa [List.getD, hk] using h
  rw [← this]
  simp
theorem contains_miss (cs : List Int) (col : Int) (h : ∀ j, j < cs.length → cs.getD j 0 ≠ col) : hasB cs col = false := by
  unfold hasB
  rw [Bool.eq_false_iff]
  intro hc
  have hm : col ∈ cs := by simpa using hc
  obtain ⟨j, hj, e⟩ := List.getElem_of_mem hm
  exact h j hj (by simp [List.getD, hj, e])

set_option maxHeartbeats 800000 in
theorem ixf18 (cs : List Int) (col : Int) (b cap B : Nat) (w : World) (hm : cs.length ≤ 1024) (hcs : Conds w b cs) (hB : w.cell? ⟨B, 0, none⟩ = some (.int .i64 col)) (hBl : B < w.heap.size) :
    Calls Yba.prog 18 #[.slice (some ⟨b, 0, none⟩) cs.length cap, .func (.func 17) #[] #[ptrOf B]] w fun e w' => ∃ r : Int, e = .returned (.int .i64 r) ∧ decide (0 ≤ r) = hasB cs col ∧ Below w.heap.size w w' := by
  go_enter Yba.func18, Yba.ntmps18
  go_wp2_with fail
  go_loopw [8] (fun t wr => ∃ k : Nat, k ≤ cs.length ∧ t = .int .i64 k ∧ Hid (∀ j, j < k → cs.getD j 0 ≠ col) ∧ Below w.heap.size w wr) (fun t _ => cs.length - (intOf t).toNat)
  case atStart => exact ⟨0, Nat.zero_le _, rfl, fun j hj => by omega, Below.refl _ _⟩
  case round =>
    obtain ⟨k, hk, rfl, HN, hbel⟩ := hrel
    by_cases hlt : k < cs.length
    · obtain ⟨c0, c1, c2, c3, c4, c5⟩ := (hcs.below hbel).2 k hlt
      generalize hc : cs.getD k 0 = c at c4
      have HC : Hid (cs.getD k 0 = c) := hc
      clear hc
      have hBr : wr.cell? ⟨B, 0, none⟩ = some (.int .i64 col) := (hbel.cell (p := ⟨B, 0, none⟩) hBl).trans hB
      have hsz := hbel.size
      by_cases hcc : (c == col) = true
      · go_wp2_with fail
        refine (clo17 c col B wr hBr (by omega)).mono ?_
        rintro e w1 ⟨rfl, hb1⟩
        have hbel1 : Below w.heap.size w w1 := hbel.trans (hb1.mono hsz)
        clear hBr c0 c1 c2 c3 c4 c5 hb1
        go_wp2_with fail
        go_ret
        refine ⟨k, rfl, ?_, hbel1⟩
        have hcol : c = col := by simpa using hcc
        rw [contains_hit cs col k hlt (HC.out.trans hcol)]
        simp
      · have hcf : (c == col) = false := by simpa using hcc
        clear hcc
        go_wp2_with fail
        refine (clo17 c col B wr hBr (by omega)).mono ?_
        rintro e w1 ⟨rfl, hb1⟩
        have hbel1 : Below w.heap.size w w1 := hbel.trans (hb1.mono hsz)
        clear hBr c0 c1 c2 c3 c4 c5 hb1
        go_wp2_with fail
        go_roundw
        case rel =>
          refine ⟨k + 1, by omega, by go_num, fun j hj => ?_, hbel1⟩
          by_cases e : j = k
          · subst e; rw [HC.out]; simpa using hcf
          · exact HN.out j (by omega)
        case measure => simp [intOf]; omega
    · obtain rfl : k = cs.length := by omega
      go_wp2_with fail
      go_ret
      exact ⟨-1, rfl, by rw [contains_miss cs col HN.out]; rfl, hbel⟩
end Go.Proofs.Ybulkdgpw
