import Derived.Test.YbulkdgpwCFrame
import Derived.Deep.RegionLaw
import Derived.Deep.DrawnRows
namespace Go.Proofs.Ybulkdgpw
open Go.ChangeShapes Go.WideShapes Go.ChangeAt Go.RowKit Go.Maps
set_option linter.unusedVariables false
attribute [local go_sem ↓] Go.wp_at_zero Go.wp_at_succ

theorem info64 : (Yba.prog.info? 64).map (fun i => (i.zero, i.size, i.bytes)) = some (some (.pointer none), 1, 8) := by kernel_rfl
theorem info79 : (Yba.prog.info? 79).map (fun i => (i.zero, i.size, i.bytes)) = some (some (.pointer none), 1, 8) := by kernel_rfl
abbrev InfC (t : TypeId) (i : TypeInfo) (z : Value) (size bytes : Nat) : Prop := Hid (Yba.prog.info? t = some i ∧ i.zero = some z ∧ i.size = size ∧ i.bytes = bytes)

theorem cellOf {w : World} {b o : Nat} {c : Array Value} {t : TypeId} {fr : Nat × Nat} {v : Value} (h : w.heap[b]? = some (.cells c t fr)) (hv : c[o]? = some v) : w.cell? ⟨b, o, none⟩ = some v := by simp [World.cell?, h, hv]
theorem thawOf {w : World} {b o : Nat} {c : Array Value} {t : TypeId} (h : w.heap[b]? = some (.cells c t (0, 0))) : w.frozen? ⟨b, o, none⟩ = false := by simp [World.frozen?, h]

/-- What stands behind 'g.locks = append(g.locks, l)'. 'row': the block of the old locks, if any. -/
theorem mid_facts {w W w1 : World} {S : Nat → Prop} {p Bx L gg cap' B n : Nat} {m k gr : Int} {wt : Bool} {uv : Value} {xs : List Value} {o : Obj} (hfW : Fr S w W) (hSp : p < w.heap.size → S p) (hSu : ∀ r, uv.ownBlock = some r → r < w.heap.size → S r)
    (hp1 : w1.heap[p]? = some (.cells #[uv, .int .i64 gr, .slice none 0 0] 82 (0, 0))) (hown : W.ownsRow B 64 1 uv n xs)
    (hB : W.heap[Bx]? = some (.cells #[ptrTo L] 64 (0, 0))) (hL : W.heap[L]? = some (lockObj m k wt)) (hBu : some Bx ≠ uv.ownBlock) (hgrow : (W.alloc o).drew.grownBy w1 uv.ownBlock)
    (hown1 : w1.ownsRow B 64 1 (sliceOf gg (n + 1) cap') (n + 1) (xs ++ [ptrTo L])) :
    (w1.setCell ⟨p, 0, none⟩ (sliceOf gg (n + 1) cap')).heap[p]? = some (.cells #[sliceOf gg (n + 1) cap', .int .i64 gr, .slice none 0 0] 82 (0, 0)) ∧
    (w1.setCell ⟨p, 0, none⟩ (sliceOf gg (n + 1) cap')).heap[Bx]? = some (.cells #[ptrTo L] 64 (0, 0)) ∧
    (w1.setCell ⟨p, 0, none⟩ (sliceOf gg (n + 1) cap')).heap[L]? = some (lockObj m k wt) ∧
    (w1.setCell ⟨p, 0, none⟩ (sliceOf gg (n + 1) cap')).ownsRow B 64 1 (sliceOf gg (n + 1) cap') (n + 1) (xs ++ [ptrTo L]) ∧
    Fr S w (w1.setCell ⟨p, 0, none⟩ (sliceOf gg (n + 1) cap')) := by
  have hLu : some L ≠ uv.ownBlock := fun e => by
    rcases hown.2 with ⟨hv, _⟩ | ⟨g, c, cur, hv, _, hh, _⟩
    · rw [hv] at e; cases e
    · rw [hv] at e
      have : L = g := by simpa [Value.ownBlock] using e
      rw [this, hh] at hL
      simp at hL
  have hB1 : w1.heap[Bx]? = some (.cells #[ptrTo L] 64 (0, 0)) := (hgrow.block Bx (by have := ltOf hB; simp; omega) hBu).trans ((Below.heap_alloc _ _ _ (ltOf hB)).trans hB)
  have hL1 : w1.heap[L]? = some (lockObj m k wt) := (hgrow.block L (by have := ltOf hL; simp; omega) hLu).trans ((Below.heap_alloc _ _ _ (ltOf hL)).trans hL)
  obtain ⟨cg, hcg⟩ := rowBlock hown1
  have f1 : Fr S w w1 := ((hfW.alloc o).drew).grown hgrow hSu
  refine ⟨?_, ?_, ?_, ?_, f1.setCell hSp _⟩
  · have hlt := ltOf hp1
    have h' : w1.heap[p] = .cells #[uv, .int .i64 gr, .slice none 0 0] 82 (0, 0) := by simpa [Array.getElem?_eq_getElem hlt] using hp1
    show (w1.heap.modify p _)[p]? = _
    rw [Array.getElem?_eq_getElem (by simpa using hlt), Array.getElem_modify_self, h']
    simp
  · rw [Below.heap_setCell _ _ _ _ (ne_of_ty hB1 hp1 (by decide))]; exact hB1
  · rw [Below.heap_setCell _ _ _ _ (ne_of_ty hL1 hp1 (by decide))]; exact hL1
  · exact row_of_block hown1 (Below.heap_setCell _ _ _ _ (ne_of_ty hcg hp1 (by decide)))

theorem set_granted {w : World} {p : Nat} {v : Value} {gr gr' : Int} (hp : w.heap[p]? = some (.cells #[v, .int .i64 gr, .slice none 0 0] 82 (0, 0))) : (w.setCell ⟨p, 1, none⟩ (.int .i64 gr')).heap[p]? = some (.cells #[v, .int .i64 gr', .slice none 0 0] 82 (0, 0)) := by
  have hlt := ltOf hp
  have h' : w.heap[p] = .cells #[v, .int .i64 gr, .slice none 0 0] 82 (0, 0) := by simpa [Array.getElem?_eq_getElem hlt] using hp
  show (w.heap.modify p _)[p]? = _
  rw [Array.getElem?_eq_getElem (by simpa using hlt), Array.getElem_modify_self, h']
  simp

/-- The group with one lock more. -/
def BG.plus (g : BG) (L : Nat) (wt : Bool) (u c : Nat) : BG := { g with ls := g.ls ++ [L], gr := g.gr + (if wt then 0 else 1), u := u, c := c }

/-- What the call of 'add' leaves of the group. -/
theorem plus_at {w w2 : World} {S : Nat → Prop} {B L gg cap' : Nat} {g : BG} {wt : Bool} (hg : BAt w B g) (hf : Fr S w w2) (hS : ∀ l c, w.heap[l]? = some (Obj.cells c 71 (0, 0)) → ¬ S l) (hgl : g.ls.length ≤ 90000) (hgg : g.gr ≤ 90000)
    (hp : w2.heap[g.p]? = some (grpObj (g.plus L wt gg cap'))) (hown : w2.ownsRow B 64 1 (sliceOf gg (g.ls.length + 1) cap') (g.ls.length + 1) (g.ls.map ptrTo ++ [ptrTo L])) (hL : w2.heap[L]? = some (lockObj g.m g.k wt)) : BAt w2 B (g.plus L wt gg cap') := by
  have h0 := hg.gr0
  refine ⟨hp, hg.pB, ?_, by simp [BG.plus], by simp [BG.plus]; omega, by unfold BG.plus; dsimp only; split <;> omega, by unfold BG.plus; dsimp only; split <;> omega, fun l hl => ?_⟩
  · simpa [BG.plus] using hown
  · have hl' : l ∈ g.ls ∨ l = L := by simpa [BG.plus] using hl
    rcases hl' with hl' | rfl
    · obtain ⟨wt', ht⟩ := hg.lock l hl'
      exact ⟨wt', (hf.block _ (ltOf ht) (hS l _ ht)).trans ht⟩
    · exact ⟨wt, hL⟩

set_option maxHeartbeats 3200000 in
set_option maxRecDepth 100000 in
theorem add_found (B X N L : Nat) (V : Int → Value) (rh : Int → Nat) (hs : List Int) (M A Bs : List BG) (g : BG) (h m k : Int) (wt : Bool) (w : World) (I : BInv w B X N V rh hs M) (hM : M = A ++ g :: Bs) (hg : g.h = h ∧ mt m k g = true) (hA : ∀ x ∈ A, ¬ (x.h = h ∧ mt m k x = true))
    (hh : okH h) (hL : w.heap[L]? = some (lockObj m k wt)) (hgl : g.ls.length ≤ 90000) (hgg : g.gr ≤ 90000) :
    Calls Yba.prog 8 #[.map (some X), .int .u16 h, ptrTo L] w fun e w' => e = .returned (.tuple #[]) ∧ ∃ u' c', BAt w' B (g.plus L wt u' c') ∧ (u' = g.u ∨ w.heap.size ≤ u') ∧ u' < w'.heap.size ∧ w'.heap[L]? = some (lockObj m k wt) ∧ Fr (fun j => j = g.p ∨ j = g.u) w w' := by
  obtain ⟨i0, hi0⟩ : ∃ i0, InfC 64 i0 (.pointer none) 1 8 := info_parts info64
  have hgM : g ∈ M := by rw [hM]; simp
  have hhs : h ∈ hs := hg.1 ▸ I.mem g hgM
  obtain ⟨cap, hV, hrow⟩ := I.row h hhs
  have hf0 : Fr (fun _ => False) w (w.alloc (.cells #[ptrTo L] 64)) := (Fr.refl _ w).alloc _
  have hXl : X < w.heap.size := by obtain ⟨es, c, hx⟩ := I.mp.block; exact ltOf hx
  have hFs : fil M h = fil A h ++ g :: fil Bs h := by rw [hM]; exact fil_split A Bs g h hg.1
  obtain ⟨n, hn⟩ : ∃ n, n = (fil M h).length := ⟨_, rfl⟩
  obtain ⟨i, hi⟩ : ∃ i, i = (fil A h).length := ⟨_, rfl⟩
  have hil : i < n := by rw [hn, hi, hFs]; simp
  have hnl : n ≤ 100000 := by have := fil_le M h; have := I.len; omega
  have hgat : BAt w B g := I.grp g hgM
  obtain ⟨w0, hw0⟩ : ∃ w0, w0 = w.alloc (.cells #[ptrTo L] 64) := ⟨_, rfl⟩
  rw [← hw0] at hf0
  have hsz0 : w0.heap.size = w.heap.size + 1 := by rw [hw0]; simp
  have hlk : ∀ q, (Instr.lookup 57 (.map (some X)) (.int .u16 h) false).run Yba.prog (w0.drewN q) = .ok (sliceOf (rh h) n cap) (w0.drewN q) := fun q => by
    rw [(I.mp.of_block (w' := w0.drewN q) (hf0.block X hXl (fun e => e))).look hh, hV, ← hn]
  have hlk0 : (Instr.lookup 57 (.map (some X)) (.int .u16 h) false).run Yba.prog (w.alloc (.cells #[ptrTo L] 64)) = .ok (sliceOf (rh h) n cap) (w.alloc (.cells #[ptrTo L] 64)) := by have := hlk 0; rw [hw0] at this; exact this
  have hgat0 : BAt w0 B g := hgat.fr hf0 (fun e => e) (fun e => e) (fun _ _ e => e)
  have hL0 : w0.heap[L]? = some (lockObj m k wt) := (hf0.block L (ltOf hL) (fun e => e)).trans hL
  have hBx0 : w0.heap[w.heap.size]? = some (.cells #[ptrTo L] 64 (0, 0)) := by rw [hw0]; exact (MapKept.heap_alloc w _).1
  rw [hV, ← hn] at hrow
  have hrc : w0.cell? ⟨rh h, i, none⟩ = some (ptrTo g.p) := by
    have hro := row_of_block hrow (hf0.block (rh h) (by obtain ⟨cur, hc⟩ := rowBlock hrow; exact ltOf hc) (fun e => e))
    rw [hro.cellAt i (by simpa using hil), hFs, hi]
    simp
  have hi14 := ixf14 (fil M h) (some ⟨rh h, 0, none⟩) n cap w.heap.size L B m k w0 hn.symm hnl (fun _ => ⟨rh h, rfl, fun j x hx => by
      have hro := row_of_block hrow (hf0.block (rh h) (by obtain ⟨cur, hc⟩ := rowBlock hrow; exact ltOf hc) (fun e => e))
      have hj : j < (fil M h).length := (List.getElem?_eq_some_iff.1 hx).1
      rw [hro.cellAt j (by omega)]
      simp [hx]⟩) (fun x hx => (I.grp x (fil_mem hx).1).fr hf0 (fun e => e) (fun e => e) (fun _ _ e => e)) (cellOf hBx0 rfl) (cellOf hL0 rfl) (cellOf hL0 rfl)
  have hr : ∀ r, IsIx (fil M h) m k r → r = (i : Int) := fun r hr => by
    rw [hFs] at hr
    rw [hi]
    refine hr.found (fun x hx => ?_) hg.2
    have := hA x (fil_mem hx).1
    have e := (fil_mem hx).2
    cases hm : mt m k x
    · rfl
    · exact absurd ⟨e, hm⟩ this
  have HI14 := hi14
  rw [hw0] at hi14
  clear HI14
  have HI : Hid (BInv w B X N V rh hs M) := I
  have HM : Hid (M = A ++ g :: Bs) := hM
  have HW0 : Hid (w0 = w.alloc (.cells #[ptrTo L] 64)) := hw0
  have HR : Hid (∀ r, IsIx (fil M h) m k r → r = (i : Int)) := hr
  have HV : Hid (V h = sliceOf (rh h) n cap) := by show V h = _; rw [hV, ← hn]
  clear hFs hn hi I hM hr hV hw0
  go_enter Yba.func8, Yba.ntmps8
  go_wp2_with fail
  refine hi14.mono ?_
  rintro e w1 ⟨r, rfl, hix, q, rfl⟩
  obtain rfl : r = (i : Int) := HR.out r hix
  rw [← HW0.out]
  have hii : ¬ (i : Int) < 0 := by omega
  have hin : (i : Int) < (n : Int) := by omega
  have hi00 : (0 : Int) ≤ (i : Int) := by omega
  clear hi14 hix hlk0
  go_wp2_with fail
  obtain ⟨W, hW⟩ : ∃ W, W = w0.drewN q := ⟨_, rfl⟩
  rw [← hW]
  have hfW : Fr (fun _ => False) w W := by rw [hW]; exact hf0.drewN q
  have hgW : BAt W B g := by rw [hW]; exact ⟨hgat0.obj, hgat0.pB, hgat0.own, hgat0.ne, hgat0.len, hgat0.gr0, hgat0.gr1, hgat0.lock⟩
  have hBW : W.heap[w.heap.size]? = some (.cells #[ptrTo L] 64 (0, 0)) := by rw [hW]; exact hBx0
  have hLW : W.heap[L]? = some (lockObj m k wt) := by rw [hW]; exact hL0
  have hsW : W.heap.size = w.heap.size + 1 := by rw [hW]; exact hsz0
  clear hW hgat0 hBx0 hL0 hsz0 hlk hrc hf0
  obtain ⟨cu, hcu⟩ := rowBlock hgW.own
  have hpu : g.p ≠ g.u := ne_of_ty hgW.obj hcu (by decide)
  obtain ⟨cu0, hcu0⟩ := rowBlock hgat.own
  have hBu : w.heap.size ≠ g.u := fun e => by have := ltOf hcu0; omega
  have hpl := ltOf hgW.obj
  have hul := ltOf hcu
  have c0 : W.cell? ⟨g.p, 0, none⟩ = some (sliceOf g.u g.ls.length g.c) := hgW.cells.1
  have cB : W.cell? ⟨w.heap.size, 0, none⟩ = some (ptrTo L) := cellOf hBW rfl
  have hBb : B ≤ W.heap.size := by have := hgW.pB; omega
  obtain ⟨Bx, hBx⟩ : ∃ Bx, Bx = w.heap.size := ⟨_, rfl⟩
  rw [← hBx] at hBu cB hBW ⊢
  have HBx : Hid (Bx = w.heap.size) := hBx
  have hBxl : Bx < W.heap.size := by omega
  have HsW : Hid (W.heap.size = w.heap.size + 1) := hsW
  have HG : Hid (BAt W B g) := hgW
  have HLW : Hid (W.heap[L]? = some (lockObj m k wt)) := hLW
  have HBW : Hid (W.heap[Bx]? = some (.cells #[ptrTo L] 64 (0, 0))) := hBW
  have HcL : W.cell? ⟨L, 9, none⟩ = some (.bool wt) := cellOf hLW rfl
  have hpu' : some g.p ≠ (sliceOf g.u g.ls.length g.c).ownBlock := fun e => hpu (by simpa [Value.ownBlock] using e)
  have hBu' : some Bx ≠ (sliceOf g.u g.ls.length g.c).ownBlock := fun e => hBu (by simpa [Value.ownBlock] using e)
  clear hBx hgW hLW hBW hcu hcu0 hsW
  go_region_law
    ((refine step_append_lies _ (by rfl) _ _ _ (by rfl) B 64 i0 _ 1 8 Yba.underlying73 hi0.out.1 hi0.out.2.1 hi0.out.2.2.1 hi0.out.2.2.2 rfl (by omega) (sliceOf g.u g.ls.length g.c) g.ls.length (g.ls.map ptrTo) (by rfl) ((HG.out.own.alloc _).drew) ⟨W.heap.size, 0, none⟩ 1 1 [ptrTo L] (by rfl) (by rfl) (World.news_of_block (cs := #[ptrTo L]) (t := 64) (fr := (0, 0)) (heap_alloc_new W _)) (by simp [Value.oneCell']) (by omega) (by unfold maxLen; omega) (by omega) (by simp; omega) (W.heap.size + 1) (by simp) ?_; intro gg cap' w1 hown1 hgrow hat hlt; have hp1 : w1.heap[g.p]? = some (grpObj g) := (hgrow.block g.p (by simp; omega) hpu').trans ((Below.heap_alloc _ _ _ hpl).trans HG.out.obj); have hfz : w1.frozen? ⟨g.p, 0, none⟩ = false := thawOf hp1; have hcz : w1.cell? ⟨g.p, 0, none⟩ = some (sliceOf g.u g.ls.length g.c) := cellOf hp1 rfl; have hcz1 : w1.cell? ⟨g.p, 1, none⟩ = some (.int .i64 g.gr) := cellOf hp1 rfl; have HP1 : Hid (w1.heap[g.p]? = some (grpObj g)) := hp1; clear hp1))
  all_goals
    obtain ⟨x2, hx2⟩ : ∃ x2, x2 = w1.setCell ⟨g.p, 0, none⟩ (sliceOf gg (g.ls.length + 1) cap') := ⟨_, rfl⟩
    obtain ⟨m1, m2, m3, m4, m5⟩ := mid_facts (S := fun j => j = g.p ∨ j = g.u) (hfW.mono (fun _ e => e.elim)) (fun _ => Or.inl rfl) (fun r hr _ => Or.inr (by simpa [Value.ownBlock] using hr.symm)) HP1.out HG.out.own HBW.out HLW.out hBu' hgrow (by simpa using hown1)
    have hat' : gg = g.u ∨ w.heap.size ≤ gg := by
      rcases hat with e | e
      · exact Or.inl (by simpa [Value.ownBlock] using e.symm)
      · exact Or.inr (by have := HsW.out; omega)
    rw [← hx2] at m1 m2 m3 m4 m5 ⊢
    have hgl2 : gg < x2.heap.size := by obtain ⟨cg, hcg⟩ := rowBlock m4; exact ltOf hcg
    have d1 : x2.cell? ⟨g.p, 1, none⟩ = some (.int .i64 g.gr) := cellOf m1 rfl
    have d2 : x2.cell? ⟨Bx, 0, none⟩ = some (ptrTo L) := cellOf m2 rfl
    have d3 : x2.cell? ⟨L, 9, none⟩ = some (.bool wt) := cellOf m3 rfl
    have d4 : x2.frozen? ⟨g.p, 1, none⟩ = false := thawOf m1
    have hmk : g.m = m ∧ g.k = k := by have := hg.2; simp [mt] at this; exact this
    have hg0 := hgat.gr0
    have HS : Hid (∀ l c, w.heap[l]? = some (Obj.cells c 71 (0, 0)) → ¬ (l = g.p ∨ l = g.u)) := fun l c hl e => by
      rcases e with e | e
      · exact ne_of_ty hl hgat.obj (by decide) e
      · obtain ⟨cu, hcu⟩ := rowBlock hgat.own
        exact ne_of_ty hl hcu (by decide) e
    have H1 : Hid (x2.heap[g.p]? = _) := m1
    have H3 : Hid (x2.heap[L]? = _) := m3
    have H4 : Hid (x2.ownsRow B 64 1 _ _ _) := m4
    have H5 : Hid (Fr _ w x2) := m5
    have HMK : Hid (g.m = m ∧ g.k = k) := hmk
    have HAT : Hid (gg = g.u ∨ w.heap.size ≤ gg) := hat'
    have HGA : Hid (BAt w B g) := hgat
    clear hx2 m1 m2 m3 m4 m5 hmk hat' hat hgrow hown1 hcz hcz1 hfz HP1 c0 cB HcL hgat hg hA hL hrow hfW
    cases wt
    · go_wp2_with fail
      go_end0
      have hp' : (x2.setCell ⟨g.p, 1, none⟩ (.int .i64 (g.gr + 1))).heap[g.p]? = some (grpObj (g.plus L false gg cap')) := by
        rw [set_granted H1.out]; simp [BG.plus]
      obtain ⟨cg, hcg⟩ := rowBlock H4.out
      have hL' : (x2.setCell ⟨g.p, 1, none⟩ (.int .i64 (g.gr + 1))).heap[L]? = some (lockObj m k false) := by
        rw [Below.heap_setCell _ _ _ _ (ne_of_ty H3.out H1.out (by decide))]; exact H3.out
      have hf' := H5.out.setCell (p := ⟨g.p, 1, none⟩) (fun _ => Or.inl rfl) (.int .i64 (g.gr + 1))
      have hrw := row_of_block H4.out (Below.heap_setCell x2 ⟨g.p, 1, none⟩ (.int .i64 (g.gr + 1)) gg (ne_of_ty hcg H1.out (by decide)))
      exact ⟨rfl, gg, cap', plus_at HGA.out hf' HS.out hgl hgg hp' hrw (by rw [HMK.out.1, HMK.out.2]; exact hL'), HAT.out, by simpa [World.setCell] using hgl2, hL', hf'⟩
    · go_wp2_with fail
      go_end0
      exact ⟨rfl, gg, cap', plus_at HGA.out H5.out HS.out hgl hgg (by rw [H1.out]; simp [BG.plus]) H4.out (by rw [HMK.out.1, HMK.out.2]; exact H3.out), HAT.out, hgl2, H3.out, H5.out⟩
end Go.Proofs.Ybulkdgpw
