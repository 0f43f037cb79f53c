import Derived.Test.YbulkdgpwCIdx
namespace Go.Proofs.Ybulkdgpw
open Go.ChangeShapes Go.WideShapes Go.ChangeAt Go.RowKit Go.Maps

/-- Of the blocks that were there those in S may have turned, no other. -/
structure Fr (S : Nat → Prop) (w w' : World) : Prop where
  os : w'.os = w.os
  tape : w'.tape = w.tape
  output : w'.output = w.output
  size : w.heap.size ≤ w'.heap.size
  block : ∀ k, k < w.heap.size → ¬ S k → w'.heap[k]? = w.heap[k]?

theorem Fr.refl (S : Nat → Prop) (w : World) : Fr S w w := ⟨rfl, rfl, rfl, Nat.le_refl _, fun _ _ _ => rfl⟩
theorem Fr.trans {S : Nat → Prop} {a b c : World} (h : Fr S a b) (k : Fr S b c) : Fr S a c :=
  ⟨k.os.trans h.os, k.tape.trans h.tape, k.output.trans h.output, Nat.le_trans h.size k.size, fun i hi hs => (k.block i (Nat.lt_of_lt_of_le hi h.size) hs).trans (h.block i hi hs)⟩
theorem Fr.mono {S S' : Nat → Prop} {a b : World} (h : Fr S a b) (hs : ∀ k, S k → S' k) : Fr S' a b := ⟨h.os, h.tape, h.output, h.size, fun i hi hn => h.block i hi (fun e => hn (hs i e))⟩
theorem Fr.alloc {S : Nat → Prop} {a w : World} (h : Fr S a w) (o : Obj) : Fr S a (w.alloc o) :=
  ⟨h.os, h.tape, h.output, Nat.le_trans h.size (by simp), fun k hk hs => (Below.heap_alloc _ _ _ (Nat.lt_of_lt_of_le hk h.size)).trans (h.block k hk hs)⟩
theorem Fr.drew {S : Nat → Prop} {a w : World} (h : Fr S a w) : Fr S a w.drew := ⟨h.os, h.tape, h.output, h.size, h.block⟩
theorem Fr.drewN {S : Nat → Prop} {a w : World} (h : Fr S a w) (q : Nat) : Fr S a (w.drewN q) := ⟨h.os, h.tape, h.output, h.size, h.block⟩
theorem Fr.setCell {S : Nat → Prop} {a w : World} (h : Fr S a w) {p : Addr} (hp : p.block < a.heap.size → S p.block) (v : Value) : Fr S a (w.setCell p v) :=
  ⟨h.os, h.tape, h.output, by simpa [World.setCell] using h.size, fun k hk hs => (Below.heap_setCell _ _ _ _ (fun e => hs (by rw [e]; exact hp (by omega)))).trans (h.block k hk hs)⟩
theorem Fr.grown {S : Nat → Prop} {a w w' : World} {row : Option Nat} (h : Fr S a w) (hg : w.grownBy w' row) (hr : ∀ k, row = some k → k < a.heap.size → S k) : Fr S a w' :=
  ⟨hg.os.trans h.os, hg.tape.trans h.tape, hg.output.trans h.output, Nat.le_trans h.size hg.size, fun k hk hs => (hg.block k (Nat.lt_of_lt_of_le hk h.size) (fun e => hs (hr k e.symm hk))).trans (h.block k hk hs)⟩
theorem Fr.below {S : Nat → Prop} {B : Nat} {w w' : World} (h : Fr S w w') (hB : B ≤ w.heap.size) (hS : ∀ k, S k → B ≤ k) : Below B w w' :=
  ⟨h.os, h.tape, h.output, h.size, fun k hk => h.block k (by omega) (fun e => by have := hS k e; omega)⟩

theorem ne_of_ty {w : World} {a b : Nat} {c c' : Array Value} {t t' : TypeId} {fr fr' : Nat × Nat} (ha : w.heap[a]? = some (.cells c t fr)) (hb : w.heap[b]? = some (.cells c' t' fr')) (h : t ≠ t') : a ≠ b := fun e => by
  rw [e, hb] at ha
  simp only [Option.some.injEq, Obj.cells.injEq] at ha
  exact h ha.2.1.symm

theorem rowBlock {w : World} {B e s u n c : Nat} {xs : List Value} (h : w.ownsRow B e s (sliceOf u n c) n xs) : ∃ cur, w.heap[u]? = some (.cells cur e (0, 0)) := by
  rcases h.2 with ⟨hv, _⟩ | ⟨g, cap, cur, hv, _, hh, _⟩
  · cases hv
  · cases hv; exact ⟨cur, hh⟩
theorem rowBase {w : World} {B e s u n c : Nat} {xs : List Value} (h : w.ownsRow B e s (sliceOf u n c) n xs) : B ≤ u := by
  rcases h.2 with ⟨hv, _⟩ | ⟨g, cap, cur, hv, hb, _⟩
  · cases hv
  · cases hv; exact hb
theorem row_of_block {w w' : World} {B e s u n c : Nat} {xs : List Value} (h : w.ownsRow B e s (sliceOf u n c) n xs) (hb : w'.heap[u]? = w.heap[u]?) : w'.ownsRow B e s (sliceOf u n c) n xs := by
  refine ⟨h.1, ?_⟩
  rcases h.2 with ⟨hv, _⟩ | ⟨g, cap, cur, hv, hB, hh, r⟩
  · cases hv
  · have : g = u := by cases hv; rfl
    subst this
    exact Or.inr ⟨g, cap, cur, hv, hB, hb.trans hh, r⟩

/-- A group stays where nothing of it has turned. -/
theorem BAt.fr {S : Nat → Prop} {w w' : World} {B : Nat} {g : BG} (h : BAt w B g) (hf : Fr S w w') (hp : ¬ S g.p) (hu : ¬ S g.u) (hl : ∀ l ∈ g.ls, ¬ S l) : BAt w' B g := by
  obtain ⟨cur, hc⟩ := rowBlock h.own
  refine ⟨(hf.block _ (ltOf h.obj) hp).trans h.obj, h.pB, row_of_block h.own (hf.block _ (ltOf hc) hu), h.ne, h.len, h.gr0, h.gr1, fun l hm => ?_⟩
  obtain ⟨wt, ht⟩ := h.lock l hm
  exact ⟨wt, (hf.block _ (ltOf ht) (hl l hm)).trans ht⟩

def fil (M : List BG) (h : Int) : List BG := M.filter fun g => g.h == h

/-- THE INDEX: the map in block X, its rows, its groups. -/
structure BInv (w : World) (B X N : Nat) (V : Int → Value) (rh : Int → Nat) (hs : List Int) (M : List BG) : Prop where
  mp : MapIs w X N V hs
  XB : B ≤ X
  hsok : ∀ h ∈ hs, okH h
  row : ∀ h ∈ hs, ∃ cap, V h = sliceOf (rh h) (fil M h).length cap ∧ w.ownsRow B 79 1 (V h) (fil M h).length ((fil M h).map fun g => ptrTo g.p)
  nil : ∀ h, h ∉ hs → V h = .slice none 0 0
  mem : ∀ g ∈ M, g.h ∈ hs
  rinj : ∀ h ∈ hs, ∀ h' ∈ hs, rh h = rh h' → h = h'
  grp : ∀ g ∈ M, BAt w B g
  upw : (M.map fun g => g.u).Nodup
  ppw : (M.map fun g => g.p).Nodup
  len : M.length ≤ 100000

theorem fil_split (A Bs : List BG) (g : BG) (h : Int) (hg : g.h = h) : fil (A ++ g :: Bs) h = fil A h ++ g :: fil Bs h := by
  simp [fil, hg]
theorem fil_mem {M : List BG} {h : Int} {g : BG} (hg : g ∈ fil M h) : g ∈ M ∧ g.h = h := by simpa [fil] using hg
theorem fil_le (M : List BG) (h : Int) : (fil M h).length ≤ M.length := List.length_filter_le _ _
theorem fil_nil {M : List BG} {h : Int} (hm : ∀ g ∈ M, g.h ≠ h) : fil M h = [] := by
  simp only [fil, List.filter_eq_nil_iff]
  intro g hg
  simpa using hm g hg

/-- The row at h, as the search wants it. -/
theorem BInv.look {w : World} {B X N : Nat} {V : Int → Value} {rh : Int → Nat} {hs : List Int} {M : List BG} (I : BInv w B X N V rh hs M) (h : Int) : ∃ av cap, V h = .slice av (fil M h).length cap ∧ (h ∈ hs → av = some ⟨rh h, 0, none⟩) ∧ (0 < (fil M h).length → ∃ R, av = some ⟨R, 0, none⟩ ∧ ∀ (i : Nat) (g : BG), (fil M h)[i]? = some g → w.cell? ⟨R, i, none⟩ = some (ptrTo g.p)) := by
  by_cases hh : h ∈ hs
  · obtain ⟨cap, hv, ho⟩ := I.row h hh
    refine ⟨some ⟨rh h, 0, none⟩, cap, hv, fun _ => rfl, fun _ => ⟨rh h, rfl, fun i g hg => ?_⟩⟩
    rw [hv] at ho
    have hi : i < (fil M h).length := (List.getElem?_eq_some_iff.1 hg).1
    rw [ho.cellAt i (by simpa using hi)]
    simp [hg]
  · have hf : fil M h = [] := fil_nil (fun g hg e => hh (e ▸ I.mem g hg))
    refine ⟨none, 0, by rw [I.nil h hh, hf]; rfl, fun e => absurd e hh, fun e => ?_⟩
    rw [hf] at e
    exact absurd e (by simp)
end Go.Proofs.Ybulkdgpw
