import Derived.Test.YbulkdgpwABuild
namespace Go.Proofs.Ybulkdgpw
open Go.ChangeShapes Go.WideShapes Go.ChangeAt Go.RowKit

theorem info42 : (Yba.prog.info? 42).map (fun i => (i.zero, i.size, i.bytes)) = some (some (.int .i8 0), 1, 1) := by kernel_rfl
theorem size40 : (Yba.prog.info? 40).map (fun i => i.size) = some 9 := by kernel_rfl

theorem eql41 (a : Addr) (w : World) : (binOp .eql 41 (.pointer (some a)) (.pointer (some a))).run Yba.prog w = .ok (.bool true) w := by
  obtain ⟨j, hj, _⟩ := Option.map_eq_some_iff.1 size40
  exact run_eql_ptr_same w a Yba.underlying41 hj
theorem equal41 (a : Addr) (w : World) : (Op.equal 41 (.pointer (some a)) (.pointer (some a))).run Yba.prog w = .ok true w := by
  obtain ⟨j, hj, _⟩ := Option.map_eq_some_iff.1 size40
  have h : ∀ d : Nat, (Op.equalIn (d + 1) 41 (.pointer (some a)) (.pointer (some a))).run Yba.prog w = .ok true w := fun d => by
    simp [Op.equalIn, run_underlying Yba.underlying41, sizeOf, typeInfo, hj, run_sameAddr_same]
  exact h 9999
theorem neq41 (a : Addr) (w : World) : (binOp .neq 41 (.pointer (some a)) (.pointer (some a))).run Yba.prog w = .ok (.bool false) w := by
  simp only [binOp]
  simp [equal41 a w]

/-- The cells of m int8s, the first k as g says, the others as made. -/
def IntsK (cur : Array Value) (m k : Nat) (g : Nat → Int) : Prop := cur.size = m ∧ ∀ j, j < m → cur[j]? = some (.int .i8 (if j < k then g j else 0))
theorem intsK_made (m : Nat) (g : Nat → Int) : IntsK (madeCells #[.int .i8 0] (m * 1)) m 0 g := by
  refine ⟨by rw [size_madeCells, Nat.mul_one], fun j hj => ?_⟩
  have h1 : j < m * 1 := by omega
  simp only [madeCells, Array.getElem?_map, Array.getElem?_range, h1, if_true, Option.map_some]
  simp [Nat.mod_one]
theorem intsK_next {cur : Array Value} {m k : Nat} {g : Nat → Int} {c : Int} (h : IntsK cur m k g) (hk : k < m) (hc : c = g k) : IntsK (cur.setIfInBounds k (.int .i8 c)) m (k + 1) g := by
  refine ⟨by simpa using h.1, fun j hj => ?_⟩
  have hs := h.1
  by_cases e : j = k
  · subst e
    simp [hs, hj, hc]
  · have hlt : (j < k + 1) = (j < k) := by apply propext; omega
    rw [Array.getElem?_setIfInBounds, if_neg (by omega)]
    simp only [hlt]
    exact h.2 j hj
/-- The list that they are. -/
def listOf (m : Nat) (g : Nat → Int) : List Int := (List.range m).map g
theorem listOf_length (m : Nat) (g : Nat → Int) : (listOf m g).length = m := by simp [listOf]
theorem listOf_get (m : Nat) (g : Nat → Int) (j : Nat) (hj : j < m) : (listOf m g).getD j 0 = g j := by simp [listOf, List.getD, hj]
theorem ints_done {w : World} {F m : Nat} {cur : Array Value} {g : Nat → Int} (hb : w.heap[F]? = some (.cells cur 42 (0, 0))) (h : IntsK cur m m g) (hg : ∀ j, -128 ≤ g j ∧ g j ≤ 127) : IntsAt w (some ⟨F, 0, none⟩) m (listOf m g) := by
  refine ⟨listOf_length m g, fun hp => ⟨F, 0, rfl, (Array.getElem?_eq_some_iff.1 hb).1, fun j hj => ?_⟩, fun j => ?_⟩
  · have hc : w.cell? ⟨F, 0 + j, none⟩ = cur[j]? := by simp [World.cell?, hb]
    rw [hc, h.2 j hj, if_pos hj, listOf_get m g j hj]
  · by_cases hj : j < m
    · rw [listOf_get m g j hj]; exact hg j
    · have : (listOf m g).getD j 0 = 0 := by simp [listOf, List.getD, hj]
      rw [this]; decide
theorem IntsAt.below {w w' : World} {a : Option Addr} {l : Nat} {fs : List Int} (h : IntsAt w a l fs) (hb : Below w.heap.size w w') : IntsAt w' a l fs := by
  refine ⟨h.1, fun hp => ?_, h.2.2⟩
  obtain ⟨b, off, e, hl, hc⟩ := h.2.1 hp
  exact ⟨b, off, e, Nat.lt_of_lt_of_le hl hb.size, fun j hj => (hb.cell (p := ⟨b, off + j, none⟩) hl).trans (hc j hj)⟩

/-- No index begins with a column of a condition. -/
theorem none_met {cs cols : List Int} (h1 : ∀ c ∈ cs, 100 ≤ c) (h2 : ∀ c ∈ cols, c ≤ 99) : NoneOf cs cols := by
  intro j hj
  unfold hasB
  rw [Bool.eq_false_iff]
  intro hc
  have hm : cols.getD j 0 ∈ cs := by simpa using hc
  have hl := h1 _ hm
  have : cols.getD j 0 ∈ cols := by simp [List.getD, hj]
  have := h2 _ this
  omega
end Go.Proofs.Ybulkdgpw
