import Derived.Test.YbulkdgpwCAddNew
namespace Go.Proofs.Ybulkdgpw
open Go.ChangeShapes Go.WideShapes Go.ChangeAt Go.RowKit Go.Maps

theorem plus_h (g : BG) (L : Nat) (wt : Bool) (u c : Nat) : (g.plus L wt u c).h = g.h ∧ (g.plus L wt u c).p = g.p ∧ (g.plus L wt u c).u = u ∧ (g.plus L wt u c).m = g.m ∧ (g.plus L wt u c).k = g.k := ⟨rfl, rfl, rfl, rfl, rfl⟩

theorem fil_turn (A Bs : List BG) (g g' : BG) (hh : g'.h = g.h) (hp : g'.p = g.p) (h : Int) : (fil (A ++ g' :: Bs) h).length = (fil (A ++ g :: Bs) h).length ∧ ((fil (A ++ g' :: Bs) h).map fun x => ptrTo x.p) = ((fil (A ++ g :: Bs) h).map fun x => ptrTo x.p) := by
  by_cases e : g.h = h
  · have e' : g'.h = h := hh.trans e
    rw [fil_split A Bs g h e, fil_split A Bs g' h e']
    simp [hp]
  · have e' : ¬ g'.h = h := fun x => e (hh.symm.trans x)
    simp [fil, e, e']

/-- 'add' has found the group. -/
theorem BInv.turn {w w' : World} {B X N : Nat} {V : Int → Value} {rh : Int → Nat} {hs : List Int} {A Bs : List BG} {g : BG} {L u' c' : Nat} {wt : Bool} (I : BInv w B X N V rh hs (A ++ g :: Bs))
    (hg' : BAt w' B (g.plus L wt u' c')) (hu : u' = g.u ∨ w.heap.size ≤ u') (hf : Fr (fun j => j = g.p ∨ j = g.u) w w') : BInv w' B X N V rh hs (A ++ g.plus L wt u' c' :: Bs) := by
  have hgM : g ∈ A ++ g :: Bs := by simp
  have hga := I.grp g hgM
  obtain ⟨cu, hcu⟩ := rowBlock hga.own
  have hft := fil_turn A Bs g (g.plus L wt u' c') rfl rfl
  have hS : ∀ (k : Nat) (c : Array Value) (t : TypeId) (fr : Nat × Nat), w.heap[k]? = some (.cells c t fr) → t ≠ 82 → t ≠ 64 → ¬ (k = g.p ∨ k = g.u) := fun k c t fr hk h1 h2 e => by
    rcases e with e | e
    · exact ne_of_ty hk hga.obj h1 e
    · exact ne_of_ty hk hcu h2 e
  have hother : ∀ x ∈ A ++ Bs, x.p ≠ g.p ∧ x.u ≠ g.u := fun x hx => by
    have h1 := I.ppw
    have h2 := I.upw
    rw [List.map_append, List.map_cons, List.nodup_append] at h1 h2
    simp only [List.mem_append] at hx
    rcases hx with hx | hx
    · exact ⟨h1.2.2 x.p (List.mem_map.2 ⟨x, hx, rfl⟩) g.p (by simp), h2.2.2 x.u (List.mem_map.2 ⟨x, hx, rfl⟩) g.u (by simp)⟩
    · have a1 := (List.nodup_cons.1 h1.2.1).1
      have a2 := (List.nodup_cons.1 h2.2.1).1
      exact ⟨fun e => a1 (List.mem_map.2 ⟨x, hx, e⟩), fun e => a2 (List.mem_map.2 ⟨x, hx, e⟩)⟩
  have hlt : ∀ x ∈ A ++ Bs, x.u < w.heap.size := fun x hx => by
    have hxa := I.grp x (by simp at hx ⊢; rcases hx with h | h <;> simp [h])
    obtain ⟨cx, hcx⟩ := rowBlock hxa.own
    exact ltOf hcx
  refine ⟨I.mp.of_block ?_, I.XB, I.hsok, fun h hh => ?_, I.nil, fun x hx => ?_, I.rinj, fun x hx => ?_, ?_, ?_, ?_⟩
  · obtain ⟨es, c, hx⟩ := I.mp.block
    refine hf.block X (ltOf hx) (fun e => ?_)
    rcases e with e | e
    · rw [e, hga.obj] at hx; cases hx
    · rw [e, hcu] at hx; cases hx
  · obtain ⟨cap, hv, ho⟩ := I.row h hh
    refine ⟨cap, by rw [hv, (hft h).1], ?_⟩
    rw [(hft h).1, (hft h).2]
    rw [hv] at ho ⊢
    obtain ⟨cr, hcr⟩ := rowBlock ho
    exact row_of_block ho (hf.block _ (ltOf hcr) (hS _ _ _ _ hcr (by decide) (by decide)))
  · have hx' : x ∈ A ∨ x = g.plus L wt u' c' ∨ x ∈ Bs := by simpa using hx
    rcases hx' with h | h | h
    · exact I.mem x (by simp [h])
    · rw [h]; exact I.mem g hgM
    · exact I.mem x (by simp [h])
  · have hx' : x ∈ A ∨ x = g.plus L wt u' c' ∨ x ∈ Bs := by simpa using hx
    have key : ∀ x ∈ A ++ Bs, BAt w' B x := fun x hx => by
      have hxa := I.grp x (by simp at hx ⊢; rcases hx with h | h <;> simp [h])
      obtain ⟨cx, hcx⟩ := rowBlock hxa.own
      have ho := hother x hx
      refine hxa.fr hf (fun e => ?_) (fun e => ?_) (fun l hl => ?_)
      · rcases e with e | e
        · exact ho.1 e
        · exact ne_of_ty hxa.obj hcu (by decide) e
      · rcases e with e | e
        · exact ne_of_ty hcx hga.obj (by decide) e
        · exact ho.2 e
      · obtain ⟨wt', ht⟩ := hxa.lock l hl
        exact hS _ _ _ _ ht (by decide) (by decide)
    rcases hx' with h | h | h
    · exact key x (by simp [h])
    · rw [h]; exact hg'
    · exact key x (by simp [h])
  · have h2 := I.upw
    rw [List.map_append, List.map_cons, List.nodup_append] at h2 ⊢
    show (List.map (fun g => g.u) A).Nodup ∧ (u' :: List.map (fun g => g.u) Bs).Nodup ∧ _
    rcases hu with rfl | hu
    · exact h2
    · have hn : ∀ x ∈ A ++ Bs, x.u ≠ u' := fun x hx e => by have := hlt x hx; omega
      refine ⟨h2.1, List.nodup_cons.2 ⟨fun hm => ?_, (List.nodup_cons.1 h2.2.1).2⟩, fun a ha b hb => ?_⟩
      · obtain ⟨x, hx, e⟩ := List.mem_map.1 hm
        exact hn x (by simp [hx]) e
      · rcases List.mem_cons.1 hb with rfl | hb
        · obtain ⟨x, hx, e⟩ := List.mem_map.1 ha
          rw [← e]; exact hn x (by simp [hx])
        · exact h2.2.2 a ha b (List.mem_cons_of_mem _ hb)
  · have h1 := I.ppw
    rw [List.map_append, List.map_cons] at h1 ⊢
    exact h1
  · have := I.len; simpa using this

def updN (f : Int → Nat) (k : Int) (v : Nat) : Int → Nat := fun h => if h = k then v else f h

/-- 'add' has made a new group. -/
theorem BInv.more {w w2 w' : World} {B X N : Nat} {V : Int → Value} {rh : Int → Nat} {hs : List Int} {M : List BG} {p R' capR : Nat} {g : BG} (I : BInv w B X N V rh hs M) (hM : M.length ≤ 90000) (hh : okH g.h)
    (hn : NewRow w w2 B X N (fil M g.h).length p R' capR V rh hs g.h ((fil M g.h).map fun x => ptrTo x.p)) (hp : g.p = p) (hpw : w.heap.size ≤ p) (hu : w.heap.size ≤ g.u) (hg : BAt w' B g) (hf : Fr (fun j => j = p) w2 w') (hRp : R' ≠ p) :
    BInv w' B X (N + 1) (upd V g.h (sliceOf R' ((fil M g.h).length + 1) capR)) (updN rh g.h R') (addTo hs g.h) (M ++ [g]) ∧ Fr (fun j => j = X ∨ (g.h ∈ hs ∧ j = rh g.h)) w w' := by
  obtain ⟨es, cc, hX⟩ := I.mp.block
  have hXw := ltOf hX
  have hw2 := hn.fr.size
  have hF : Fr (fun j => j = X ∨ (g.h ∈ hs ∧ j = rh g.h)) w w' := ⟨hf.os.trans hn.fr.os, hf.tape.trans hn.fr.tape, hf.output.trans hn.fr.output, Nat.le_trans hw2 hf.size, fun k hk hs' => (hf.block k (by omega) (by omega)).trans (hn.fr.block k hk hs')⟩
  have hS : ∀ (k : Nat) (c : Array Value) (t : TypeId) (fr : Nat × Nat), w.heap[k]? = some (.cells c t fr) → t ≠ 79 → ¬ (k = X ∨ (g.h ∈ hs ∧ k = rh g.h)) := fun k c t fr hk h1 e => by
    rcases e with e | ⟨e1, e⟩
    · rw [e, hX] at hk; cases hk
    · obtain ⟨cap, hv, ho⟩ := I.row g.h e1
      rw [hv] at ho
      obtain ⟨cr, hcr⟩ := rowBlock ho
      exact ne_of_ty hk hcr h1 e
  have hmem : ∀ x, x ∈ addTo hs g.h ↔ x ∈ hs ∨ x = g.h := fun x => by
    unfold addTo
    split
    · constructor
      · exact Or.inl
      · rintro (h | rfl) <;> assumption
    · simp
  have hrlt : ∀ h ∈ hs, rh h < w.heap.size := fun h hh => by
    obtain ⟨cap, hv, ho⟩ := I.row h hh
    rw [hv] at ho
    obtain ⟨cr, hcr⟩ := rowBlock ho
    exact ltOf hcr
  have hfs : fil (M ++ [g]) g.h = fil M g.h ++ [g] := by simp [fil]
  have hfo : ∀ h, h ≠ g.h → fil (M ++ [g]) h = fil M h := fun h hne => by simp [fil, Ne.symm hne]
  refine ⟨⟨hn.mp.of_block (hf.block X (by omega) (by omega)), I.XB, fun h hx => ?_, fun h hx => ?_, fun h hx => ?_, fun x hx => ?_, fun h h1 h' h2 e => ?_, fun x hx => ?_, ?_, ?_, by simp; omega⟩, hF⟩
  · rcases (hmem h).1 hx with h1 | rfl
    · exact I.hsok h h1
    · exact hh
  · by_cases e : h = g.h
    · subst e
      refine ⟨capR, by rw [hfs]; simp [upd, updN], ?_⟩
      have hlen : (fil M g.h ++ [g]).length = (fil M g.h).length + 1 := by simp
      have hr := row_of_block hn.own (hf.block R' (by obtain ⟨cr, hcr⟩ := rowBlock hn.own; exact ltOf hcr) hRp)
      rw [hfs, hlen]
      have hup : upd V g.h (sliceOf R' ((fil M g.h).length + 1) capR) g.h = sliceOf R' ((fil M g.h).length + 1) capR := by simp [upd]
      rw [hup]
      simpa [hp] using hr
    · have h1 : h ∈ hs := by rcases (hmem h).1 hx with h1 | h1; exact h1; exact absurd h1 e
      obtain ⟨cap, hv, ho⟩ := I.row h h1
      have hup : upd V g.h (sliceOf R' ((fil M g.h).length + 1) capR) h = V h := by simp [upd, e]
      have hrn : updN rh g.h R' h = rh h := by simp [updN, e]
      rw [hfo h e, hup, hrn]
      refine ⟨cap, hv, ?_⟩
      rw [hv] at ho ⊢
      obtain ⟨cr, hcr⟩ := rowBlock ho
      refine row_of_block ho (hF.block _ (ltOf hcr) (fun e' => ?_))
      rcases e' with e' | ⟨e1, e'⟩
      · rw [e', hX] at hcr; cases hcr
      · exact e (I.rinj h h1 g.h e1 e')
  · have hne : h ≠ g.h := fun e => hx ((hmem h).2 (Or.inr e))
    have hn' : h ∉ hs := fun e => hx ((hmem h).2 (Or.inl e))
    simp [upd, hne, I.nil h hn']
  · rcases List.mem_append.1 hx with h1 | h1
    · exact (hmem _).2 (Or.inl (I.mem x h1))
    · rw [List.mem_singleton.1 h1]; exact (hmem _).2 (Or.inr rfl)
  · have hcase : ∀ h, h ∈ addTo hs g.h → h ≠ g.h → h ∈ hs := fun h hx hne => by rcases (hmem h).1 hx with h1 | h1; exact h1; exact absurd h1 hne
    have hfresh : ∀ h, h ∈ addTo hs g.h → h ≠ g.h → rh h ≠ R' := fun h hx hne e' => by
      have hh1 := hcase h hx hne
      rcases hn.at_ with ⟨a1, a2⟩ | a1
      · exact hne (I.rinj h hh1 g.h a1 (e'.trans a2))
      · have := hrlt h hh1; omega
    by_cases e1 : h = g.h <;> by_cases e2 : h' = g.h
    · rw [e1, e2]
    · subst e1
      have a : updN rh g.h R' g.h = R' := by simp [updN]
      have b : updN rh g.h R' h' = rh h' := by simp [updN, e2]
      rw [a, b] at e
      exact absurd e.symm (hfresh h' h2 e2)
    · subst e2
      have a : updN rh g.h R' g.h = R' := by simp [updN]
      have b : updN rh g.h R' h = rh h := by simp [updN, e1]
      rw [a, b] at e
      exact absurd e (hfresh h h1 e1)
    · have a : updN rh g.h R' h = rh h := by simp [updN, e1]
      have b : updN rh g.h R' h' = rh h' := by simp [updN, e2]
      rw [a, b] at e
      exact I.rinj h (hcase h h1 e1) h' (hcase h' h2 e2) e
  · rcases List.mem_append.1 hx with h1 | h1
    · have hxa := I.grp x h1
      obtain ⟨cx, hcx⟩ := rowBlock hxa.own
      refine hxa.fr hF (hS _ _ _ _ hxa.obj (by decide)) (hS _ _ _ _ hcx (by decide)) (fun l hl => ?_)
      obtain ⟨wt', ht⟩ := hxa.lock l hl
      exact hS _ _ _ _ ht (by decide)
    · rw [List.mem_singleton.1 h1]; exact hg
  · rw [List.map_append, List.map_cons, List.map_nil, List.nodup_append]
    refine ⟨I.upw, by simp, fun a ha b hb => ?_⟩
    rw [List.mem_singleton.1 hb]
    obtain ⟨x, hx, e⟩ := List.mem_map.1 ha
    obtain ⟨cx, hcx⟩ := rowBlock (I.grp x hx).own
    have := ltOf hcx
    omega
  · rw [List.map_append, List.map_cons, List.map_nil, List.nodup_append]
    refine ⟨I.ppw, by simp, fun a ha b hb => ?_⟩
    rw [List.mem_singleton.1 hb]
    obtain ⟨x, hx, e⟩ := List.mem_map.1 ha
    have := ltOf (I.grp x hx).obj
    omega
end Go.Proofs.Ybulkdgpw
