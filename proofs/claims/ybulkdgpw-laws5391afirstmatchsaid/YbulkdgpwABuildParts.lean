import Derived.Test.YbulkdgpwAScanned
import Derived.Deep.AppendLies
import Derived.Laws.EntriesVeiled
namespace Go.Proofs.Ybulkdgpw
open Go.ChangeShapes Go.WideShapes Go.ChangeAt Go.RowKit

theorem info41 : (Yba.prog.info? 41).map (fun i => (i.zero, i.size, i.bytes)) = some (some (.pointer none), 1, 8) := by kernel_rfl
theorem info51 : (Yba.prog.info? 51).map (fun i => (i.zero, i.size, i.bytes)) = some (some (.agg (condCells 0)), 6, 72) := by kernel_rfl

abbrev tabObj (v : Value) : Obj := .cells #[.string { data := #[116] }, .int .u64 0, .slice none 0 0, v] 32 (0, 0)
abbrev idxObj (T kb : Nat) : Obj := .cells #[.string { data := #[105, 120] }, ptrOf T, .int .u32 0, .int .u32 0, .slice (some ⟨kb, 0, none⟩) 1 1, .int .i64 1, .bool false, .slice none 0 0, .slice none 0 0] 40 (0, 0)

/-- A store into a block that is known. -/
theorem heap_set_same {w : World} {b o : Nat} {c : Array Value} {t : TypeId} {fr : Nat × Nat} (h : w.heap[b]? = some (.cells c t fr)) (v : Value) : (w.setCell ⟨b, o, none⟩ v).heap[b]? = some (.cells (c.setIfInBounds o v) t fr) := by
  have hlt : b < w.heap.size := (Array.getElem?_eq_some_iff.1 h).1
  have h' : w.heap[b] = .cells c t fr := by simpa [Array.getElem?_eq_getElem hlt] using h
  show (w.heap.modify b _)[b]? = _
  rw [Array.getElem?_eq_getElem (by simpa using hlt), Array.getElem_modify_self, h']
  simp

/-- Blocks of another element type than the row's are as they were behind an append to the row. -/
theorem kept_other {wr wa w1 : World} {B n e size : Nat} {v : Value} {xs : List Value} (hown : wr.ownsRow B e size v n xs) (ha : ∀ k, k < wr.heap.size → wa.heap[k]? = wr.heap[k]?) (hs : wr.heap.size ≤ wa.heap.size)
    (hg : wa.grownBy w1 v.ownBlock) {k : Nat} {c : Array Value} {t : TypeId} {fr : Nat × Nat} (ht : t ≠ e) (hk : wr.heap[k]? = some (.cells c t fr)) : w1.heap[k]? = some (.cells c t fr) := by
  have hlt : k < wr.heap.size := (Array.getElem?_eq_some_iff.1 hk).1
  rw [hg.block k (by omega) ?_, ha k hlt]
  · exact hk
  intro e'
  rcases hown.2 with ⟨hv, _⟩ | ⟨g, cap, cur, hv, _, hh, _⟩
  · rw [hv] at e'; simp [Value.ownBlock] at e'
  · rw [hv] at e'
    simp only [Value.ownBlock, Option.some.injEq] at e'
    rw [e', hh] at hk
    simp only [Option.some.injEq, Obj.cells.injEq] at hk
    exact ht hk.2.1.symm

/-- The table as the first loop makes it: k indexes so far. -/
structure TabR (w wr : World) (T k : Nat) (v : Value) (gs : List Nat) (cols : List Int) : Prop where
  len : gs.length = k
  tab : wr.heap[T]? = some (tabObj v)
  own : wr.ownsRow (T + 1) 41 1 v k (gs.map ptrOf)
  idx : ∀ i, i < k → IdxAt wr (gs.getD i 0) (cols.getD i 0)
  below : Below T w wr

theorem IdxAt.of_kept {w w' : World} {g : Nat} {c : Int} (h : IdxAt w g c) (hk : ∀ (k : Nat) (c : Array Value) (t : TypeId), t = 40 ∨ t = 3 → w.heap[k]? = some (Obj.cells c t (0, 0)) → w'.heap[k]? = some (Obj.cells c t (0, 0))) : IdxAt w' g c := by
  obtain ⟨T, kb, h1, h2⟩ := h
  exact ⟨T, kb, hk _ _ _ (Or.inl rfl) h1, hk _ _ _ (Or.inr rfl) h2⟩

theorem TabR.lt {w wr : World} {T k : Nat} {v : Value} {gs : List Nat} {cols : List Int} (h : TabR w wr T k v gs cols) : T < wr.heap.size := (Array.getElem?_eq_some_iff.1 h.tab).1

/-- One round: an index of the column c is made and appended; before the store the table's block is as it was. -/
theorem TabR.mid {w wr w1 : World} {T k : Nat} {v : Value} {gs : List Nat} {cols : List Int} {o1 o2 o3 : Obj} (h : TabR w wr T k v gs cols)
    (hgrow : (((wr.alloc o1).alloc o2).alloc o3).grownBy w1 v.ownBlock) : w1.heap[T]? = some (tabObj v) := by
  refine kept_other h.own (fun j hj => ?_) (by simp; omega) hgrow (by decide) h.tab
  rw [Below.heap_alloc _ _ _ (by simp; omega), Below.heap_alloc _ _ _ (by simp; omega), Below.heap_alloc _ _ _ hj]

theorem TabR.next {w wr w1 : World} {T k : Nat} {v v' : Value} {gs : List Nat} {cols : List Int} {o3 : Obj} {c : Int} (h : TabR w wr T k v gs cols) (hc : c = cols.getD k 0)
    (hgrow : (((wr.alloc (.cells #[.int .i64 c] 3)).alloc (idxObj T wr.heap.size)).alloc o3).grownBy w1 v.ownBlock)
    (hown : w1.ownsRow (T + 1) 41 1 v' (k + 1) (gs.map ptrOf ++ [ptrOf (wr.heap.size + 1)])) :
    TabR w (w1.setCell ⟨T, 3, none⟩ v') T (k + 1) v' (gs ++ [wr.heap.size + 1]) cols := by
  have hT1 := h.mid hgrow
  have hTl := h.lt
  have ha : ∀ j, j < wr.heap.size → (((wr.alloc (.cells #[.int .i64 c] 3)).alloc (idxObj T wr.heap.size)).alloc o3).heap[j]? = wr.heap[j]? := fun j hj => by
    rw [Below.heap_alloc _ _ _ (by simp; omega), Below.heap_alloc _ _ _ (by simp; omega), Below.heap_alloc _ _ _ hj]
  have hkept : ∀ (j : Nat) (c : Array Value) (t : TypeId), t = 40 ∨ t = 3 → wr.heap[j]? = some (Obj.cells c t (0, 0)) → (w1.setCell ⟨T, 3, none⟩ v').heap[j]? = some (Obj.cells c t (0, 0)) := fun j cc t ht hj => by
    have hne : j ≠ T := fun e => by
      rw [e, h.tab] at hj
      simp only [Option.some.injEq, Obj.cells.injEq] at hj
      rcases ht with rfl | rfl
      · exact absurd hj.2.1 (by decide)
      · exact absurd hj.2.1 (by decide)
    rw [Below.heap_setCell _ _ _ _ hne]
    exact kept_other h.own ha (by simp; omega) hgrow (by rcases ht with rfl | rfl <;> decide) hj
  have hnew : ∀ j, wr.heap.size ≤ j → j < wr.heap.size + 3 → (w1.setCell ⟨T, 3, none⟩ v').heap[j]? = (((wr.alloc (.cells #[.int .i64 c] 3)).alloc (idxObj T wr.heap.size)).alloc o3).heap[j]? := fun j h1 h2 => by
    rw [Below.heap_setCell _ _ _ _ (by show j ≠ T; omega)]
    refine hgrow.block j (by simp; omega) (fun e => ?_)
    have := (h.own.lt j e.symm).2
    omega
  refine ⟨by simp [h.len], ?_, ownsRow_setCell_below (by simpa using hown) (by show T < T + 1; omega) _, fun i hi => ?_, ?_⟩
  · rw [heap_set_same hT1]; rfl
  · by_cases e : i = k
    · subst e
      have e1 : (gs ++ [wr.heap.size + 1]).getD i 0 = wr.heap.size + 1 := by simp [List.getD, ← h.len]
      rw [e1, ← hc]
      refine ⟨T, wr.heap.size, ?_, ?_⟩
      · rw [hnew _ (by omega) (by omega), Below.heap_alloc _ _ _ (by simp)]
        have := (MapKept.heap_alloc (wr.alloc (.cells #[.int .i64 c] 3)) (idxObj T wr.heap.size)).1
        simpa using this
      · rw [hnew _ (by omega) (by omega), Below.heap_alloc _ _ _ (by simp; omega), Below.heap_alloc _ _ _ (by simp)]
        exact (MapKept.heap_alloc wr _).1
    · have e1 : (gs ++ [wr.heap.size + 1]).getD i 0 = gs.getD i 0 := by
        have : i < gs.length := by rw [h.len]; omega
        simp [List.getD, List.getElem?_append_left this]
      rw [e1]
      exact (h.idx i (by omega)).of_kept hkept
  · have hb1 : Below T w w1 := (((h.below.alloc (by omega) _).alloc (by simp; omega) _).alloc (by simp; omega) _).grown hgrow (by simp; omega) (fun j hj => by have := (h.own.lt j hj).1; omega)
    exact hb1.setCell (by show T ≤ T; omega) _

/-- The cells of m conditions, the first k on the columns cs, the others as made. -/
def CondsK (cur : Array Value) (m k : Nat) (cs : List Int) : Prop := cur.size = m * 6 ∧ ∀ j, j < m → cur[j * 6]? = some .nilFunc ∧ cur[j * 6 + 1]? = some .nilFunc ∧ cur[j * 6 + 2]? = some (.int .u8 0) ∧ cur[j * 6 + 3]? = some (.slice none 0 0) ∧
  cur[j * 6 + 4]? = some (.int .i64 (if j < k then cs.getD j 0 else 0)) ∧ cur[j * 6 + 5]? = some .nilIface

theorem made_at (n i : Nat) (hi : i < 6) (j : Nat) (hj : j < n) : (madeCells (condCells 0) (n * 6))[j * 6 + i]? = (condCells 0)[i]? := by
  have h1 : j * 6 + i < n * 6 := by omega
  have h2 : (j * 6 + i) % 6 = i := by omega
  have hs : (condCells 0).size = 6 := rfl
  simp only [madeCells, Array.getElem?_map, Array.getElem?_range, h1, if_true, Option.map_some, hs, h2]
  rw [getElem!_pos (condCells 0) i (by simpa using hi), Array.getElem?_eq_getElem (by simpa using hi)]

theorem condsK_made (n : Nat) (cs : List Int) : CondsK (madeCells (condCells 0) (n * 6)) n 0 cs := by
  refine ⟨by rw [size_madeCells], fun j hj => ?_⟩
  have h := fun i hi => made_at n i hi j hj
  refine ⟨h 0 (by decide), h 1 (by decide), h 2 (by decide), h 3 (by decide), ?_, h 5 (by decide)⟩
  rw [h 4 (by decide), if_neg (by omega)]; rfl

/-- A slice that was just made is its whole block. -/
theorem made_block {w : World} {B g e size n : Nat} {cs : Array Value} (h : w.ownsRow B e size (.slice (some ⟨g, 0, none⟩) n n) n cs.toList) : w.heap[g]? = some (.cells cs e (0, 0)) := by
  rcases h.2 with ⟨hv, _⟩ | ⟨g', cap, cur, hv, _, hh, _, _, hs, ht⟩
  · cases hv
  · cases hv
    rw [hh]
    have : cur.toList = cs.toList := by rw [← ht, List.take_of_length_le (by rw [Array.length_toList, hs]; exact Nat.le_refl _)]
    rw [Array.toList_inj.1 this]

/-- The world behind the store of a condition. -/
abbrev putCond (w : World) (b o : Nat) (c : Int) : World :=
  (((((w.setCell ⟨b, o, none⟩ .nilFunc).setCell ⟨b, o + 1, none⟩ .nilFunc).setCell ⟨b, o + 2, none⟩ (.int .u8 0)).setCell ⟨b, o + 3, none⟩ (.slice none 0 0)).setCell ⟨b, o + 4, none⟩ (.int .i64 c)).setCell ⟨b, o + 5, none⟩ .nilIface

theorem putCond_block {w : World} {b o : Nat} {cur : Array Value} {t : TypeId} {fr : Nat × Nat} (h : w.heap[b]? = some (.cells cur t fr)) (c : Int) : (putCond w b o c).heap[b]? =
    some (.cells ((((((cur.setIfInBounds o .nilFunc).setIfInBounds (o + 1) .nilFunc).setIfInBounds (o + 2) (.int .u8 0)).setIfInBounds (o + 3) (.slice none 0 0)).setIfInBounds (o + 4) (.int .i64 c)).setIfInBounds (o + 5) .nilIface) t fr) :=
  heap_set_same (heap_set_same (heap_set_same (heap_set_same (heap_set_same (heap_set_same h _) _) _) _) _) _

theorem condsK_next {cur : Array Value} {m k : Nat} {cs : List Int} {c : Int} (h : CondsK cur m k cs) (hk : k < m) (hc : c = cs.getD k 0) :
    CondsK ((((((cur.setIfInBounds (k * 6) .nilFunc).setIfInBounds (k * 6 + 1) .nilFunc).setIfInBounds (k * 6 + 2) (.int .u8 0)).setIfInBounds (k * 6 + 3) (.slice none 0 0)).setIfInBounds (k * 6 + 4) (.int .i64 c)).setIfInBounds (k * 6 + 5) .nilIface) m (k + 1) cs := by
  refine ⟨by simpa using h.1, fun j hj => ?_⟩
  have hs := h.1
  obtain ⟨d0, d1, d2, d3, d4, d5⟩ := h.2 j hj
  by_cases e : j = k
  · subst e
    have e5 : j * 6 + 5 < cur.size := by omega
    have e4 : j * 6 + 4 < cur.size := by omega
    have e3 : j * 6 + 3 < cur.size := by omega
    have e2 : j * 6 + 2 < cur.size := by omega
    have e1 : j * 6 + 1 < cur.size := by omega
    have e0 : j * 6 < cur.size := by omega
    simp [e0, e1, e2, e3, e4, e5, hc]
  · have g : ∀ a b, a < 6 → b < 6 → ¬ (k * 6 + a = j * 6 + b) := fun a b ha hb => by omega
    have g0 : ∀ b, b < 6 → ¬ (k * 6 = j * 6 + b) := fun b hb => by omega
    have g1 : ∀ a, a < 6 → ¬ (k * 6 + a = j * 6) := fun a ha => by omega
    have g2 : ¬ (k * 6 = j * 6) := by omega
    have hlt : (j < k + 1) = (j < k) := by apply propext; omega
    simp only [Array.getElem?_setIfInBounds, g 1 1 (by decide) (by decide), g 1 2 (by decide) (by decide), g 1 3 (by decide) (by decide), g 1 4 (by decide) (by decide), g 1 5 (by decide) (by decide), g 2 1 (by decide) (by decide), g 2 2 (by decide) (by decide), g 2 3 (by decide) (by decide), g 2 4 (by decide) (by decide), g 2 5 (by decide) (by decide), g 3 1 (by decide) (by decide), g 3 2 (by decide) (by decide), g 3 3 (by decide) (by decide), g 3 4 (by decide) (by decide), g 3 5 (by decide) (by decide), g 4 1 (by decide) (by decide), g 4 2 (by decide) (by decide), g 4 3 (by decide) (by decide), g 4 4 (by decide) (by decide), g 4 5 (by decide) (by decide), g 5 1 (by decide) (by decide), g 5 2 (by decide) (by decide), g 5 3 (by decide) (by decide), g 5 4 (by decide) (by decide), g 5 5 (by decide) (by decide), g0 1 (by decide), g0 2 (by decide), g0 3 (by decide), g0 4 (by decide), g0 5 (by decide), g1 1 (by decide), g1 2 (by decide), g1 3 (by decide), g1 4 (by decide), g1 5 (by decide), g2, if_false, hlt]
    exact ⟨d0, d1, d2, d3, d4, d5⟩

theorem putCond_below {w0 w : World} {B b o : Nat} (h : Below B w0 w) (hb : B ≤ b) (c : Int) : Below B w0 (putCond w b o c) :=
  (((((h.setCell (by exact hb) _).setCell (by exact hb) _).setCell (by exact hb) _).setCell (by exact hb) _).setCell (by exact hb) _).setCell (by exact hb) _

/-- The conditions, all laid. -/
theorem conds_done {w : World} {b m : Nat} {cur : Array Value} {cs : List Int} (hm : cs.length = m) (hb : w.heap[b]? = some (.cells cur 51 (0, 0))) (h : CondsK cur m m cs) : Conds w b cs := by
  refine ⟨(Array.getElem?_eq_some_iff.1 hb).1, fun j hj => ?_⟩
  have hc : ∀ i, w.cell? ⟨b, i, none⟩ = cur[i]? := fun i => by simp [World.cell?, hb]
  simp only [hc]
  have := h.2 j (by omega)
  rwa [if_pos (by omega)] at this

/-- The table, all laid. -/
theorem tab_done {w wo w1 : World} {T k cp : Nat} {ao : Option Addr} {gs : List Nat} {cols : List Int} (h : TabR w wo T k (.slice ao k cp) gs cols) (hk : k = cols.length) (hp : 0 < k) (hb : Below wo.heap.size wo w1) : ∃ R, Tab w1 T R cp gs cols := by
  subst hk
  obtain ⟨g, cap, hv, _, hlt⟩ := h.own.form hp
  have hv' : ao = some ⟨g, 0, none⟩ ∧ cp = cap := by simpa using hv
  obtain ⟨rfl, rfl⟩ := hv'
  refine ⟨g, Tab.below ⟨h.len, h.tab, hlt, fun i hi => ?_, h.idx⟩ hb⟩
  rw [h.own.cellAt i (by simpa using hi)]
  have : i < gs.length := by rw [h.len]; exact hi
  simp [List.getD, this]
end Go.Proofs.Ybulkdgpw
