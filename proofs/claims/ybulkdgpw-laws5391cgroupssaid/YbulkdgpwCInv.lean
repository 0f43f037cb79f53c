import Derived.Test.YbulkdgpwCMap
import Derived.LaidEqlPtr
import Derived.Deep.QuietTactic
import Derived.BigQuiet
import Derived.Deep.AppendLies
import Derived.Deep.RegionHeld3
import Derived.Laws.EntriesVeiled
namespace Go.Proofs.Ybulkdgpw
open Go.ChangeShapes Go.WideShapes Go.ChangeAt Go.RowKit Go.Maps

/-! ### The abstract groups -/
/-- A group as the index holds it: heap, mode, kind, how many are granted, the locks' blocks; the block u (capacity c) of its locks; its own block p. -/
structure BG where
  h : Int
  m : Int
  k : Int
  gr : Int
  ls : List Nat
  u : Nat
  c : Nat
  p : Nat
/-- A group as the law's model holds it. -/
structure MG where
  h : Int
  m : Int
  k : Int
  gr : Int
  ls : List Nat
  u : Nat
  c : Nat

def BG.key (g : BG) : Int × Int × Int × Int × List Nat := (g.h, g.m, g.k, g.gr, g.ls)
def MG.key (g : MG) : Int × Int × Int × Int × List Nat := (g.h, g.m, g.k, g.gr, g.ls)

/-- The slice of locks of a group. -/
abbrev sliceOf (u n c : Nat) : Value := .slice (some ⟨u, 0, none⟩) n c

/-- A lock's block. -/
abbrev lockObj (m k : Int) (wt : Bool) : Obj := .cells #[.pointer none, .pointer none, .pointer none, .pointer none, .slice none 0 0, .int .u16 0, .int .u16 0, .int .u8 m, .int .u8 k, .bool wt, .bool false, .int .i32 0, .int .u64 0, .chan none, .nilIface] 71 (0, 0)
def LockAt (w : World) (l : Nat) (m k : Int) : Prop := ∃ wt, w.heap[l]? = some (lockObj m k wt)

abbrev grpObj (g : BG) : Obj := .cells #[sliceOf g.u g.ls.length g.c, .int .i64 g.gr, .slice none 0 0] 82 (0, 0)

/-- A group of the index lies in w. -/
structure BAt (w : World) (B : Nat) (g : BG) : Prop where
  obj : w.heap[g.p]? = some (grpObj g)
  pB : B ≤ g.p
  own : w.ownsRow B 64 1 (sliceOf g.u g.ls.length g.c) g.ls.length (g.ls.map ptrTo)
  ne : 0 < g.ls.length
  len : g.ls.length ≤ 100000
  gr0 : 0 ≤ g.gr
  gr1 : g.gr ≤ 100000
  lock : ∀ l ∈ g.ls, LockAt w l g.m g.k

theorem ltOf {w : World} {k : Nat} {o : Obj} (h : w.heap[k]? = some o) : k < w.heap.size := (Array.getElem?_eq_some_iff.1 h).1

theorem LockAt.cells {w : World} {l : Nat} {m k : Int} (h : LockAt w l m k) : l < w.heap.size ∧ w.cell? ⟨l, 7, none⟩ = some (.int .u8 m) ∧ w.cell? ⟨l, 8, none⟩ = some (.int .u8 k) := by
  obtain ⟨wt, h⟩ := h
  exact ⟨ltOf h, by simp [World.cell?, h], by simp [World.cell?, h]⟩

theorem BAt.cells {w : World} {B : Nat} {g : BG} (h : BAt w B g) : w.cell? ⟨g.p, 0, none⟩ = some (sliceOf g.u g.ls.length g.c) ∧ w.cell? ⟨g.p, 1, none⟩ = some (.int .i64 g.gr) ∧ w.cell? ⟨g.p, 2, none⟩ = some (.slice none 0 0) :=
  ⟨by simp [World.cell?, h.obj], by simp [World.cell?, h.obj], by simp [World.cell?, h.obj]⟩
theorem BAt.lockCell {w : World} {B : Nat} {g : BG} (h : BAt w B g) (i : Nat) (hi : i < g.ls.length) : w.cell? ⟨g.u, i, none⟩ = some (ptrTo (g.ls.getD i 0)) := by
  rw [h.own.cellAt i (by simpa using hi)]
  simp [List.getD, hi]
theorem BAt.first {w : World} {B : Nat} {g : BG} (h : BAt w B g) : ∃ l0, w.cell? ⟨g.u, 0, none⟩ = some (ptrTo l0) ∧ w.cell? ⟨l0, 7, none⟩ = some (.int .u8 g.m) ∧ w.cell? ⟨l0, 8, none⟩ = some (.int .u8 g.k) := by
  have hi := h.ne
  refine ⟨g.ls.getD 0 0, h.lockCell 0 hi, ?_⟩
  have hm : g.ls.getD 0 0 ∈ g.ls := by simp [List.getD, hi]
  obtain ⟨_, h7, h8⟩ := (h.lock _ hm).cells
  exact ⟨h7, h8⟩

/-! ### the closure, 'slices.IndexFunc' -/
set_option maxHeartbeats 1600000 in
theorem clo15 (p u n c l0 L Bx : Nat) (m0 k0 m k : Int) (w : World) (hn : 0 < n) (h0 : w.cell? ⟨p, 0, none⟩ = some (sliceOf u n c)) (hl : w.cell? ⟨u, 0, none⟩ = some (ptrTo l0)) (h7 : w.cell? ⟨l0, 7, none⟩ = some (.int .u8 m0)) (h8 : w.cell? ⟨l0, 8, none⟩ = some (.int .u8 k0))
    (hB : w.cell? ⟨Bx, 0, none⟩ = some (ptrTo L)) (g7 : w.cell? ⟨L, 7, none⟩ = some (.int .u8 m)) (g8 : w.cell? ⟨L, 8, none⟩ = some (.int .u8 k)) :
    Calls Yba.prog 15 #[ptrTo p, ptrTo Bx] w fun e w' => e = .returned (.bool (m0 == m && k0 == k)) ∧ ∃ q, w' = w.drewN q := by
  have hn' : (0 : Int) < (n : Int) := by omega
  by_cases hm : (m0 == m) = true
  · go_enter Yba.func15, Yba.ntmps15
    go_wp2_with fail
    go_quiet (fail)
    go_wp2_with fail
    go_ret
    exact ⟨by simp [hm], _, rfl⟩
  · have hm' : (m0 == m) = false := by simpa using hm
    clear hm
    go_enter Yba.func15, Yba.ntmps15
    go_wp2_with fail
    go_quiet (fail)
    go_wp2_with fail
    go_ret
    exact ⟨by simp [hm'], _, rfl⟩
end Go.Proofs.Ybulkdgpw
