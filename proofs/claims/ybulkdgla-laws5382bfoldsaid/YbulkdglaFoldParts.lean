import Derived.Test.YbulkdglaPtr
import Derived.Maps.AppendAt
namespace Go.Proofs.Ybulkdgla
open Go.ChangeShapes Go.WideShapes Go.ChangeAt Go.RowKit

theorem info22 : (Yba.prog.info? 22).map (fun i => (i.zero, i.size, i.bytes)) = some (some (.pointer none), 1, 8) := by kernel_rfl

/-- A pointer to the head of block g. -/
abbrev ptrOf (g : Nat) : Value := .pointer (some ⟨g, 0, none⟩)

/-- The block of a leaf with the constant t. -/
abbrev leafObj (t : ByteArray) : Obj := .cells #[.int .u8 0, .int .i32 0, .pointer none, .pointer none, .pointer none, .string t] 27
/-- The block of an and-node. -/
abbrev nodeObj (q : Option Addr) (g : Nat) : Obj := .cells #[.int .u8 2, .int .i32 0, .pointer q, ptrOf g, .pointer none, .string { data := #[] }] 27

def LeafAt (w : World) (g : Nat) : Prop := ∃ t, w.heap[g]? = some (leafObj t)
def NodeAt (w : World) (d : Nat) (q : Option Addr) (g : Nat) : Prop := w.heap[d]? = some (nodeObj q g)

/-- The tree at p, folded from the left, whose leaves, READ FROM THE RIGHT, are the blocks of the list. -/
def Flat (w : World) : List Nat → Option Addr → Prop
  | [], p => p = none
  | [g], p => p = some ⟨g, 0, none⟩ ∧ LeafAt w g
  | g :: h :: r, p => ∃ d q, p = some ⟨d, 0, none⟩ ∧ NodeAt w d q g ∧ LeafAt w g ∧ Flat w (h :: r) q

/-- The blocks of 'expr's are as they were. -/
def Kept27 (w w' : World) : Prop := ∀ (k : Nat) (c : Array Value), w.heap[k]? = some (Obj.cells c 27 (0, 0)) → w'.heap[k]? = w.heap[k]?

theorem LeafAt.carry {w w' : World} {g : Nat} (h : LeafAt w g) (hk : Kept27 w w') : LeafAt w' g := by
  obtain ⟨t, ht⟩ := h
  exact ⟨t, by rw [hk _ _ ht]; exact ht⟩

theorem Flat.carry {w w' : World} (hk : Kept27 w w') : ∀ (gs : List Nat) (p : Option Addr), Flat w gs p → Flat w' gs p
  | [], p, h => h
  | [g], p, h => ⟨h.1, h.2.carry hk⟩
  | g :: h :: r, p, hf => by
    obtain ⟨d, q, e, hn, hl, hr⟩ := hf
    refine ⟨d, q, e, ?_, hl.carry hk, Flat.carry hk (h :: r) q hr⟩
    unfold NodeAt at hn ⊢
    rw [hk _ _ hn]; exact hn

/-- The cells of a leaf, of a node. -/
theorem LeafAt.op {w : World} {g : Nat} (h : LeafAt w g) : w.cell? ⟨g, 0, none⟩ = some (.int .u8 0) := by
  obtain ⟨t, ht⟩ := h; simp [World.cell?, ht]
theorem LeafAt.lt {w : World} {g : Nat} (h : LeafAt w g) : g < w.heap.size := by
  obtain ⟨t, ht⟩ := h; exact (Array.getElem?_eq_some_iff.1 ht).1
theorem NodeAt.lt {w : World} {d g : Nat} {q : Option Addr} (h : NodeAt w d q g) : d < w.heap.size :=
  (Array.getElem?_eq_some_iff.1 h).1
theorem NodeAt.cells {w : World} {d g : Nat} {q : Option Addr} (h : NodeAt w d q g) : w.cell? ⟨d, 0, none⟩ = some (.int .u8 2) ∧ w.cell? ⟨d, 2, none⟩ = some (.pointer q) ∧ w.cell? ⟨d, 3, none⟩ = some (ptrOf g) := by
  unfold NodeAt at h; refine ⟨?_, ?_, ?_⟩ <;> simp [World.cell?, h]

/-- Blocks of another element type than the row's stay as they were behind an append to the row. -/
theorem kept27 {wr wa w1 : World} {B n : Nat} {v : Value} {xs : List Value} (hown : wr.ownsRow B 22 1 v n xs) (ha : ∀ k, k < wr.heap.size → wa.heap[k]? = wr.heap[k]?) (hs : wr.heap.size ≤ wa.heap.size)
    (hg : wa.grownBy w1 v.ownBlock) : Kept27 wr w1 := by
  intro k c hk
  have hlt : k < wr.heap.size := (Array.getElem?_eq_some_iff.1 hk).1
  rw [hg.block k (by omega) ?_, ha k hlt]
  intro e
  rcases hown.2 with ⟨hv, _⟩ | ⟨g, cap, cur, hv, _, hh, _⟩
  · rw [hv] at e; simp [Value.ownBlock] at e
  · rw [hv] at e
    simp only [Value.ownBlock, Option.some.injEq] at e
    rw [e, hh] at hk
    simp at hk

theorem alloc_kept (w : World) (o : Obj) : Kept27 w (w.alloc o) := fun _ _ hk =>
  Below.heap_alloc _ _ _ (Array.getElem?_eq_some_iff.1 hk).1

/-- A round of the fold that makes a leaf: what was there, and the leaf, behind the append. -/
theorem leaf_made {w wr w1 : World} {B n : Nat} {v : Value} {xs : List Value} {hs : List Nat} {p : Option Addr} {t : ByteArray} {o2 : Obj}
    (hown : wr.ownsRow B 22 1 v n xs) (hfl : Flat wr hs p) (hbel : Below B w wr) (hB : B ≤ wr.heap.size) (hg : ((wr.alloc (leafObj t)).alloc o2).grownBy w1 v.ownBlock) :
    Flat w1 hs p ∧ LeafAt w1 wr.heap.size ∧ Below B w w1 := by
  have ha : ∀ k, k < wr.heap.size → ((wr.alloc (leafObj t)).alloc o2).heap[k]? = wr.heap[k]? := fun k hk => by
    rw [Below.heap_alloc _ _ _ (by simp; omega), Below.heap_alloc _ _ _ hk]
  refine ⟨Flat.carry (kept27 hown ha (by simp; omega) hg) _ _ hfl, ⟨t, ?_⟩, ?_⟩
  · rw [hg.block _ (by simp; omega) ?_, Below.heap_alloc _ _ _ (by simp)]
    · exact (MapKept.heap_alloc wr _).1
    · intro e
      have := (hown.lt _ e.symm).2
      omega
  · exact ((hbel.alloc hB _).alloc (by simp; omega) _).grown hg (by simp; omega) (fun k hk => (hown.lt k hk).1)

/-- The fold's new tree: nothing was there; or a node over the old one. -/
theorem flat_one {w : World} {g : Nat} (h : LeafAt w g) : Flat w [g] (some ⟨g, 0, none⟩) := ⟨rfl, h⟩
theorem flat_more {w : World} {g h : Nat} {r : List Nat} {p : Option Addr} (hf : Flat w (h :: r) p) (hg : LeafAt w g) : Flat (w.alloc (nodeObj p g)) (g :: h :: r) (some ⟨w.heap.size, 0, none⟩) := by
  refine ⟨w.heap.size, p, rfl, ?_, hg.carry (alloc_kept _ _), Flat.carry (alloc_kept _ _) _ _ hf⟩
  exact (MapKept.heap_alloc w _).1

/-- A tree with a leaf is not nil. -/
theorem flat_some {w : World} {g : Nat} {r : List Nat} {p : Option Addr} (hf : Flat w (g :: r) p) : ∃ d, p = some ⟨d, 0, none⟩ := by
  cases r with
  | nil => exact ⟨g, hf.1⟩
  | cons h r => obtain ⟨d, _, e, _⟩ := hf; exact ⟨d, e⟩
end Go.Proofs.Ybulkdgla
