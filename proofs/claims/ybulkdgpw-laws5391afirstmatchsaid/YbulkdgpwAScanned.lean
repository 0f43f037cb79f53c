import Derived.Test.YbulkdgpwAHas
namespace Go.Proofs.Ybulkdgpw
open Go.ChangeShapes Go.WideShapes Go.ChangeAt Go.RowKit

/-- The table in block T, its indexes in the row R. -/
structure Tab (w : World) (T R capR : Nat) (gs : List Nat) (cols : List Int) : Prop where
  len : gs.length = cols.length
  tab : w.heap[T]? = some (.cells #[.string { data := #[116] }, .int .u64 0, .slice none 0 0, .slice (some ⟨R, 0, none⟩) cols.length capR] 32 (0, 0))
  rowLt : R < w.heap.size
  row : ∀ i, i < cols.length → w.cell? ⟨R, i, none⟩ = some (ptrOf (gs.getD i 0))
  idx : ∀ i, i < cols.length → IdxAt w (gs.getD i 0) (cols.getD i 0)

theorem Tab.lt {w : World} {T R capR : Nat} {gs : List Nat} {cols : List Int} (h : Tab w T R capR gs cols) : T < w.heap.size := (Array.getElem?_eq_some_iff.1 h.tab).1
theorem Tab.below {w w' : World} {T R capR : Nat} {gs : List Nat} {cols : List Int} (h : Tab w T R capR gs cols) (hb : Below w.heap.size w w') : Tab w' T R capR gs cols :=
  ⟨h.len, by rw [hb.block T h.lt]; exact h.tab, Nat.lt_of_lt_of_le h.rowLt hb.size, fun i hi => (hb.cell (p := ⟨R, i, none⟩) h.rowLt).trans (h.row i hi), fun i hi => (h.idx i hi).below hb⟩
theorem Tab.ixs {w : World} {T R capR : Nat} {gs : List Nat} {cols : List Int} (h : Tab w T R capR gs cols) : w.cell? ⟨T, 3, none⟩ = some (.slice (some ⟨R, 0, none⟩) cols.length capR) := by simp [World.cell?, h.tab]

/-- The first index that has a condition; none has. -/
def First (cs cols : List Int) (i : Nat) : Prop := i < cols.length ∧ hasB cs (cols.getD i 0) = true ∧ ∀ j, j < i → hasB cs (cols.getD j 0) = false
def NoneOf (cs cols : List Int) : Prop := ∀ j, j < cols.length → hasB cs (cols.getD j 0) = false
def Want (cs cols : List Int) (i : Nat) : Prop := First cs cols i ∨ (NoneOf cs cols ∧ i = 0)

theorem Want.one {cs cols : List Int} {i j : Nat} (h : Want cs cols i) (g : Want cs cols j) : i = j := by
  rcases h with ⟨h1, h2, h3⟩ | ⟨h1, rfl⟩ <;> rcases g with ⟨g1, g2, g3⟩ | ⟨g1, rfl⟩
  · rcases Nat.lt_trichotomy i j with hl | hl | hl
    · have := g3 i hl; rw [h2] at this; cases this
    · exact hl
    · have := h3 j hl; rw [g2] at this; cases this
  · have := g1 i h1; rw [h2] at this; cases this
  · have := h1 j g1; rw [g2] at this; cases this
  · rfl

set_option maxHeartbeats 800000 in
theorem ixf13 (cs cols : List Int) (gs : List Nat) (b cap B T R capR : Nat) (w : World) (hm : cs.length ≤ 1024) (hn : cols.length ≤ 2000) (hcs : Conds w b cs) (ht : Tab w T R capR gs cols) (hB : w.cell? ⟨B, 0, none⟩ = some (.slice (some ⟨b, 0, none⟩) cs.length cap)) (hBl : B < w.heap.size) :
    Calls Yba.prog 13 #[.slice (some ⟨R, 0, none⟩) cols.length capR, .func (.func 10) #[] #[ptrOf B]] w fun e w' => ∃ r : Int, e = .returned (.int .i64 r) ∧ ((r = -1 ∧ NoneOf cs cols) ∨ ∃ i : Nat, r = i ∧ First cs cols i) ∧ Below w.heap.size w w' := by
  go_enter Yba.func13, Yba.ntmps13
  go_wp2_with fail
  go_loopw [8] (fun t wr => ∃ k : Nat, k ≤ cols.length ∧ t = .int .i64 k ∧ Hid (∀ j, j < k → hasB cs (cols.getD j 0) = false) ∧ Below w.heap.size w wr) (fun t _ => cols.length - (intOf t).toNat)
  case atStart => exact ⟨0, Nat.zero_le _, rfl, fun j hj => by omega, Below.refl _ _⟩
  case round =>
    obtain ⟨k, hk, rfl, HN, hbel⟩ := hrel
    by_cases hlt : k < cols.length
    · have htr := ht.below hbel
      have hcsr := hcs.below hbel
      have hg := htr.idx k hlt
      have hcell := htr.row k hlt
      have hBr := (hbel.cell (p := ⟨B, 0, none⟩) hBl).trans hB
      have hsz := hbel.size
      obtain ⟨c, hc⟩ : ∃ c, c = cols.getD k 0 := ⟨_, rfl⟩
      rw [← hc] at hg
      have HC : Hid (c = cols.getD k 0) := hc
      clear hc htr
      generalize gs.getD k 0 = g at hg hcell
      by_cases hcc : hasB cs c = true
      · go_wp2_with fail
        refine (clo10 cs g c b cap B wr hm hcsr hg hBr).mono ?_
        rintro e w1 ⟨rfl, hb1⟩
        have hbel1 : Below w.heap.size w w1 := hbel.trans (hb1.mono hsz)
        clear hcell hBr hb1
        go_wp2_with fail
        go_ret
        refine ⟨k, rfl, Or.inr ⟨k, rfl, hlt, ?_, HN.out⟩, hbel1⟩
        rw [← HC.out]; exact hcc
      · have hcf : hasB cs c = false := by simpa using hcc
        clear hcc
        go_wp2_with fail
        refine (clo10 cs g c b cap B wr hm hcsr hg hBr).mono ?_
        rintro e w1 ⟨rfl, hb1⟩
        have hbel1 : Below w.heap.size w w1 := hbel.trans (hb1.mono hsz)
        clear hcell hBr hb1
        go_wp2_with fail
        go_roundw
        case rel =>
          refine ⟨k + 1, by omega, by go_num, fun j hj => ?_, hbel1⟩
          by_cases e : j = k
          · subst e; rw [← HC.out]; exact hcf
          · exact HN.out j (by omega)
        case measure => simp [intOf]; omega
    · obtain rfl : k = cols.length := by omega
      go_wp2_with fail
      go_ret
      exact ⟨-1, rfl, Or.inl ⟨rfl, HN.out⟩, hbel⟩

set_option maxHeartbeats 800000 in
theorem scanned7 (cs cols : List Int) (gs : List Nat) (b cap T R capR : Nat) (w : World) (hm : cs.length ≤ 1024) (hn : cols.length ≤ 2000) (hp : 0 < cols.length) (hcs : Conds w b cs) (ht : Tab w T R capR gs cols) :
    Calls Yba.prog 7 #[ptrOf T, .slice (some ⟨b, 0, none⟩) cs.length cap] w fun e w' => ∃ i : Nat, e = .returned (ptrOf (gs.getD i 0)) ∧ Want cs cols i ∧ Below w.heap.size w w' := by
  have hb0 : Below w.heap.size w (w.alloc (.cells #[.slice (some ⟨b, 0, none⟩) cs.length cap] 24)) := (Below.refl _ _).alloc (Nat.le_refl _) _
  have hix := (ht.below hb0).ixs
  go_enter Yba.func7, Yba.ntmps7
  go_wp2_with fail
  refine (ixf13 cs cols gs b cap w.heap.size T R capR _ hm hn (hcs.below hb0) (ht.below hb0) (by simp) (by simp)).mono ?_
  rintro e w1 ⟨r, rfl, hr, hb1⟩
  have hb : Below w.heap.size w w1 := hb0.trans (hb1.mono (by simp))
  have ht1 := ht.below hb
  have hix1 := ht1.ixs
  clear hb1 hb0 hix
  rcases hr with ⟨rfl, hN⟩ | ⟨i, rfl, hF⟩
  · have hrow := ht1.row 0 hp
    have hpi : (0 : Int) < (cols.length : Int) := by omega
    generalize hG : gs.getD 0 0 = g at hrow
    have HG : Hid (gs.getD 0 0 = g) := hG
    have HN : Hid (NoneOf cs cols) := hN
    clear hG hN ht1
    go_wp2_with fail
    go_ret
    exact ⟨0, by rw [HG.out]; rfl, Or.inr ⟨HN.out, rfl⟩, hb⟩
  · have hrow := ht1.row i hF.1
    have hpi : (i : Int) < (cols.length : Int) := by have := hF.1; omega
    have hp0 : (0 : Int) ≤ (i : Int) := by omega
    generalize hG : gs.getD i 0 = g at hrow
    have HG : Hid (gs.getD i 0 = g) := hG
    have HF : Hid (First cs cols i) := hF
    clear hG hF ht1
    go_wp2_with fail
    go_ret
    exact ⟨i, by rw [HG.out]; rfl, Or.inl HF.out, hb⟩
end Go.Proofs.Ybulkdgpw
