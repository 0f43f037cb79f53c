import Derived.Test.YbulkdgpwCAdd
namespace Go.Proofs.Ybulkdgpw
open Go.ChangeShapes Go.WideShapes Go.ChangeAt Go.RowKit Go.Maps
set_option linter.unusedVariables false
attribute [local go_sem ↓] Go.wp_at_zero Go.wp_at_succ

/-- What a new group's row and map entry are, behind 'ix[heap] = append(groups, new(blockerGroup))'. -/
structure NewRow (w w2 : World) (B X N n p R' capR : Nat) (V : Int → Value) (rh : Int → Nat) (hs : List Int) (h : Int) (xs : List Value) : Prop where
  mp : MapIs w2 X (N + 1) (upd V h (sliceOf R' (n + 1) capR)) (addTo hs h)
  own : w2.ownsRow B 79 1 (sliceOf R' (n + 1) capR) (n + 1) (xs ++ [ptrTo p])
  at_ : (h ∈ hs ∧ R' = rh h) ∨ w.heap.size ≤ R'
  fr : Fr (fun j => j = X ∨ (h ∈ hs ∧ j = rh h)) w w2

theorem new_row {w W w1 w2 : World} {B X N n p R' capR cap : Nat} {V : Int → Value} {rh : Int → Nat} {hs : List Int} {h : Int} {xs : List Value} {o1 o2 : Obj} {av : Option Addr} (hfW : Fr (fun _ => False) w W) (hsW : W.heap.size = w.heap.size + 1)
    (hav : V h = .slice av n cap) (hin : h ∈ hs → av = some ⟨rh h, 0, none⟩) (hout : h ∉ hs → av = none)
    (hgrow : ((W.alloc o1).alloc o2).grownBy w1 (V h).ownBlock) (hown1 : w1.ownsRow B 79 1 (sliceOf R' (n + 1) capR) (n + 1) (xs ++ [ptrTo p])) (hat : (V h).ownBlock = some R' ∨ R' = W.heap.size + 2)
    (hmp : MapIs w2 X (N + 1) (upd V h (sliceOf R' (n + 1) capR)) (addTo hs h)) (hg2 : w1.grownBy w2 (some X)) (hX : ∃ es c, w1.heap[X]? = some (.map es c)) :
    NewRow w w2 B X N n p R' capR V rh hs h xs ∧ ∀ j, w.heap.size ≤ j → j < W.heap.size + 2 → w2.heap[j]? = ((W.alloc o1).alloc o2).heap[j]? ∨ (V h).ownBlock = some j ∨ j = X := by
  have hob : ∀ k, (V h).ownBlock = some k → h ∈ hs ∧ k = rh h := fun k hk => by
    by_cases e : h ∈ hs
    · refine ⟨e, ?_⟩
      rw [hav, hin e] at hk
      simpa [Value.ownBlock] using hk.symm
    · rw [hav, hout e] at hk; cases hk
  obtain ⟨cr, hcr⟩ := rowBlock hown1
  obtain ⟨es, c, hx⟩ := hX
  have hRX : R' ≠ X := fun e => by rw [e, hx] at hcr; cases hcr
  refine ⟨⟨hmp, row_of_block hown1 (hg2.block R' (ltOf hcr) (fun e => hRX (by simpa using e))), ?_, ?_⟩, fun j h1 h2 => ?_⟩
  · rcases hat with e | e
    · exact Or.inl (hob R' e)
    · exact Or.inr (by omega)
  · exact ((((hfW.mono (S' := fun j => j = X ∨ (h ∈ hs ∧ j = rh h)) (fun _ e => e.elim)).alloc o1).alloc o2).grown hgrow (fun k hk _ => Or.inr (hob k hk))).grown hg2 (fun k hk _ => Or.inl (by simpa using hk.symm))
  · by_cases e1 : (V h).ownBlock = some j
    · exact Or.inr (Or.inl e1)
    · by_cases e2 : j = X
      · exact Or.inr (Or.inr e2)
      · left
        rw [hg2.block j (by have := hgrow.size; simp at this; omega) (fun e => e2 (by simpa using e)), hgrow.block j (by simp; omega) (fun e => e1 e.symm)]

set_option maxHeartbeats 3200000 in
set_option maxRecDepth 100000 in
theorem add_new (B X N L : Nat) (V : Int → Value) (rh : Int → Nat) (hs : List Int) (M : List BG) (h m k : Int) (wt : Bool) (w : World) (I : BInv w B X N V rh hs M) (hA : ∀ x ∈ M, ¬ (x.h = h ∧ mt m k x = true))
    (hh : okH h) (hL : w.heap[L]? = some (lockObj m k wt)) (hB : B ≤ w.heap.size) (hN : N ≤ 100000) (hMl : M.length ≤ 90000) :
    Calls Yba.prog 8 #[.map (some X), .int .u16 h, ptrTo L] w fun e w' => e = .returned (.tuple #[]) ∧ ∃ p u' c' R' capR w2, NewRow w w2 B X N (fil M h).length p R' capR V rh hs h ((fil M h).map fun g => ptrTo g.p) ∧ w.heap.size ≤ p ∧ w.heap.size ≤ u' ∧ u' < w'.heap.size ∧
      BAt w' B ⟨h, m, k, if wt then 0 else 1, [L], u', c', p⟩ ∧ w'.heap[L]? = some (lockObj m k wt) ∧ Fr (fun j => j = p) w2 w' ∧ R' ≠ p := by
  obtain ⟨i0, hi0⟩ : ∃ i0, InfC 64 i0 (.pointer none) 1 8 := info_parts info64
  obtain ⟨i7, hi7⟩ : ∃ i7, InfC 79 i7 (.pointer none) 1 8 := info_parts info79
  obtain ⟨av, cap, hV, hin, hrow⟩ := I.look h
  have hf0 : Fr (fun _ => False) w (w.alloc (.cells #[ptrTo L] 64)) := (Fr.refl _ w).alloc _
  have hXl : X < w.heap.size := by obtain ⟨es, c, hx⟩ := I.mp.block; exact ltOf hx
  obtain ⟨n, hn⟩ : ∃ n, n = (fil M h).length := ⟨_, rfl⟩
  have hnl : n ≤ 90000 := by have := fil_le M h; omega
  rw [← hn] at hV hrow
  have hownV : w.ownsRow B 79 1 (.slice av n cap) n ((fil M h).map fun g => ptrTo g.p) := by
    by_cases e : h ∈ hs
    · obtain ⟨c', hv', ho⟩ := I.row h e
      rw [hV, ← hn] at ho; exact ho
    · have hf : fil M h = [] := fil_nil (fun g hg e' => e (e' ▸ I.mem g hg))
      have : (.slice av n cap : Value) = .slice none 0 0 := by rw [← hV]; exact I.nil h e
      rw [this, hn, hf]
      exact World.ownsRow_nil _ _ _ _
  have hout : h ∉ hs → av = none := fun e => by
    have : (.slice av n cap : Value) = .slice none 0 0 := by rw [← hV]; exact I.nil h e
    cases this; rfl
  obtain ⟨w0, hw0⟩ : ∃ w0, w0 = w.alloc (.cells #[ptrTo L] 64) := ⟨_, rfl⟩
  rw [← hw0] at hf0
  have hsz0 : w0.heap.size = w.heap.size + 1 := by rw [hw0]; simp
  have hlk0 : (Instr.lookup 57 (.map (some X)) (.int .u16 h) false).run Yba.prog (w.alloc (.cells #[ptrTo L] 64)) = .ok (.slice av n cap) (w.alloc (.cells #[ptrTo L] 64)) := by
    have := (I.mp.of_block (w' := w0) (hf0.block X hXl (fun e => e))).look hh
    rw [hV, hw0] at this; exact this
  have hL0 : w0.heap[L]? = some (lockObj m k wt) := (hf0.block L (ltOf hL) (fun e => e)).trans hL
  have hBx0 : w0.heap[w.heap.size]? = some (.cells #[ptrTo L] 64 (0, 0)) := by rw [hw0]; exact (MapKept.heap_alloc w _).1
  have hi14 := ixf14 (fil M h) av n cap w.heap.size L B m k w0 hn.symm (by omega) (fun hp => by
      obtain ⟨R, e, hr⟩ := hrow hp
      refine ⟨R, e, fun j x hx => ?_⟩
      have hc := hr j x hx
      exact (World.cell?_of_block (w := w) (hf0.block R (World.block_lt_of_cell? w _ hc) (fun e => e))).trans hc) (fun x hx => (I.grp x (fil_mem hx).1).fr hf0 (fun e => e) (fun e => e) (fun _ _ e => e)) (cellOf hBx0 rfl) (cellOf hL0 rfl) (cellOf hL0 rfl)
  have hr : ∀ r, IsIx (fil M h) m k r → r = -1 := fun r hr => hr.none (fun x hx => by
    have := hA x (fil_mem hx).1
    have e := (fil_mem hx).2
    cases hm : mt m k x
    · rfl
    · exact absurd ⟨e, hm⟩ this)
  rw [hw0] at hi14
  have HI : Hid (BInv w B X N V rh hs M) := I
  have HW0 : Hid (w0 = w.alloc (.cells #[ptrTo L] 64)) := hw0
  have HR : Hid (∀ r, IsIx (fil M h) m k r → r = -1) := hr
  have HV : Hid (V h = .slice av n cap) := hV
  have HN : Hid (n = (fil M h).length) := hn
  have HO : Hid (w.ownsRow B 79 1 (.slice av n cap) n ((fil M h).map fun g => ptrTo g.p)) := hownV
  clear hn I hr hV hw0 hownV hA
  go_enter Yba.func8, Yba.ntmps8
  go_wp2_with fail
  refine hi14.mono ?_
  rintro e w1 ⟨r, rfl, hix, q, rfl⟩
  obtain rfl : r = -1 := HR.out r hix
  rw [← HW0.out]
  obtain ⟨W, hW⟩ : ∃ W, W = w0.drewN q := ⟨_, rfl⟩
  rw [← hW]
  have hfW : Fr (fun _ => False) w W := by rw [hW]; exact hf0.drewN q
  have hBW : W.heap[w.heap.size]? = some (.cells #[ptrTo L] 64 (0, 0)) := by rw [hW]; exact hBx0
  have hLW : W.heap[L]? = some (lockObj m k wt) := by rw [hW]; exact hL0
  have hsW : W.heap.size = w.heap.size + 1 := by rw [hW]; exact hsz0
  have HOW : Hid (W.ownsRow B 79 1 (.slice av n cap) n ((fil M h).map fun g => ptrTo g.p)) := by
    rcases HO.out.2 with ⟨hv, h0⟩ | ⟨g, c, cur, hv, r1, r2, r3⟩
    · exact ⟨HO.out.1, Or.inl ⟨hv, h0⟩⟩
    · exact ⟨HO.out.1, Or.inr ⟨g, c, cur, hv, r1, (hfW.block g (ltOf r2) (fun e => e)).trans r2, r3⟩⟩
  have HMW : Hid (MapIs W X N V hs) := HI.out.mp.of_block (hfW.block X hXl (fun e => e))
  have HsW : Hid (W.heap.size = w.heap.size + 1) := hsW
  have hBb : B ≤ W.heap.size := by omega
  clear hW hi14 hix hlk0 hBx0 hL0 hsz0 hrow hsW hf0
  go_wp2_with (at_builtin; go_must (refine wpList_append_lies _ rfl _ _ 77 rfl B 79 i7 (.pointer none) 1 8 Yba.underlying77 hi7.out.1 hi7.out.2.1 hi7.out.2.2.1 hi7.out.2.2.2 rfl (by decide) _ _ _ rfl ((HOW.out.alloc _).alloc _) ⟨W.heap.size + 1, 0, none⟩ 1 1 [ptrTo W.heap.size] rfl rfl ?c1 (by simp [Value.oneCell']) (by decide) (by unfold maxLen; omega) (by omega) (by simp; omega) (W.heap.size + 2) (by simp) ?c2))
  case c1 => have := cell_one_new (W.alloc (.cells #[.slice none 0 0, .int .i64 0, .slice none 0 0] 82)) (ptrTo W.heap.size) 79; simpa using this
  intro R' capR w1 hown1 hgrow hat _
  rw [← HV.out] at hgrow hat
  have hobl : ∀ j, (V h).ownBlock = some j → j < w.heap.size := fun j hj => by
    rw [HV.out] at hj
    exact (HO.out.lt j hj).2
  have hobX : some X ≠ (V h).ownBlock := fun e => by
    obtain ⟨es, c, hx⟩ := HI.out.mp.block
    rcases HO.out.2 with ⟨hv, _⟩ | ⟨g, c', cur, hv, _, hh', _⟩
    · rw [HV.out, hv] at e; cases e
    · rw [HV.out, hv] at e
      have : X = g := by simpa [Value.ownBlock] using e
      rw [this, hh'] at hx; cases hx
  have hXb : w1.heap[X]? = W.heap[X]? := by
    have hXW : X < W.heap.size := by have := HsW.out; omega
    rw [hgrow.block X (by simp; omega) hobX, Below.heap_alloc _ _ _ (by simp; omega), Below.heap_alloc _ _ _ hXW]
  have hm1 : MapIs w1 X N V hs := HMW.out.of_block hXb
  obtain ⟨w2, hput, hmp2, hg2⟩ := hm1.put (by omega) hh (sliceOf R' (n + 1) capR)
  have HNR := new_row hfW HsW.out HV.out hin hout hgrow (by simpa using hown1) hat hmp2 hg2 hm1.block
  have hp2 : w2.heap[W.heap.size]? = some (.cells #[.slice none 0 0, .int .i64 0, .slice none 0 0] 82 (0, 0)) := by
    rcases HNR.2 W.heap.size (by have := HsW.out; omega) (by omega) with e | e | e
    · rw [e, Below.heap_alloc _ _ _ (by simp)]; exact (MapKept.heap_alloc W _).1
    · have := hobl _ e; have := HsW.out; omega
    · have := HsW.out; omega
  have hB2 : w2.heap[w.heap.size]? = some (.cells #[ptrTo L] 64 (0, 0)) := by
    rcases HNR.2 w.heap.size (by omega) (by have := HsW.out; omega) with e | e | e
    · rw [e, Below.heap_alloc _ _ _ (by have := HsW.out; simp; omega), Below.heap_alloc _ _ _ (by have := HsW.out; omega)]; exact hBW
    · have := hobl _ e; omega
    · omega
  have hL2 : w2.heap[L]? = some (lockObj m k wt) := by
    refine (HNR.1.fr.block L (ltOf hL) (fun e => ?_)).trans hL
    rcases e with e | ⟨e1, e2⟩
    · obtain ⟨es, c, hx⟩ := HI.out.mp.block
      rw [← e, hL] at hx; cases hx
    · obtain ⟨c', hv', ho⟩ := HI.out.row h e1
      rw [hv'] at ho
      obtain ⟨cr, hcr⟩ := rowBlock ho
      exact ne_of_ty hL hcr (by decide) e2
  have hlk2 : (Instr.lookup 57 (.map (some X)) (.int .u16 h) false).run Yba.prog w2 = .ok (sliceOf R' (n + 1) capR) w2 := by
    rw [HNR.1.mp.look hh]; simp [upd]
  have hrc : w2.cell? ⟨R', n, none⟩ = some (ptrTo W.heap.size) := by
    rw [HNR.1.own.cellAt n (by omega)]
    have : ((fil M h).map fun g => ptrTo g.p).length = n := by rw [List.length_map]; exact HN.out.symm
    rw [List.getElem?_append_right (by omega), this]; simp
  have HNR1 : Hid (NewRow w w2 B X N n W.heap.size R' capR V rh hs h ((fil M h).map fun g => ptrTo g.p)) := HNR.1
  have hin2 : (n : Int) < ((n + 1 : Nat) : Int) := by omega
  have hn0 : (0 : Int) ≤ (n : Int) := by omega
  have HpB : Hid (W.heap.size = w.heap.size + 1) := HsW
  obtain ⟨p, hp⟩ : ∃ p, p = W.heap.size := ⟨_, rfl⟩
  rw [← hp] at hp2 hrc HNR1 ⊢
  have hpw : w.heap.size < p := by have := HsW.out; omega
  have H2 : Hid (w2.heap[p]? = _) := hp2
  have HB2 : Hid (w2.heap[w.heap.size]? = _) := hB2
  have HL2 : Hid (w2.heap[L]? = some (lockObj m k wt)) := hL2
  have hpl := ltOf hp2
  have HNl : Hid (n = (fil M h).length) := HN
  clear hown1 hgrow hat hobl hobX hXb hm1 hmp2 hg2 HNR hp hBW hLW HOW HMW HI HO hp2 hB2 hL2 hfW hBb hL HV hin hout HN HR HsW HpB HW0
  go_wp2_with fail
  have c0 : w2.cell? ⟨p, 0, none⟩ = some (.slice none 0 0) := cellOf H2.out rfl
  have cB : w2.cell? ⟨w.heap.size, 0, none⟩ = some (ptrTo L) := cellOf HB2.out rfl
  obtain ⟨Bx, hBx⟩ : ∃ Bx, Bx = w.heap.size := ⟨_, rfl⟩
  rw [← hBx] at cB HB2 ⊢
  have HBx : Hid (Bx = w.heap.size) := hBx
  have hw2 : w.heap.size ≤ w2.heap.size := HNR1.out.fr.size
  have hB22 : B ≤ w2.heap.size := by omega
  have hbp : Bx ≠ p := by omega
  have hpu' : some p ≠ (Value.slice none 0 0).ownBlock := fun e => by cases e
  have hBu' : some Bx ≠ (Value.slice none 0 0).ownBlock := fun e => by cases e
  have hRp : R' ≠ p := by
    obtain ⟨cr, hcr⟩ := rowBlock HNR1.out.own
    exact ne_of_ty hcr H2.out (by decide)
  clear hBx hlk2 hrc hput
  go_region_law
    ((refine step_append_lies _ (by rfl) _ _ _ (by rfl) B 64 i0 _ 1 8 Yba.underlying73 hi0.out.1 hi0.out.2.1 hi0.out.2.2.1 hi0.out.2.2.2 rfl (by omega) (.slice none 0 0) 0 [] (by rfl) (((World.ownsRow_nil w2 B 64 1).alloc _).drew) ⟨w2.heap.size, 0, none⟩ 1 1 [ptrTo L] (by rfl) (by rfl) (World.news_of_block (cs := #[ptrTo L]) (t := 64) (fr := (0, 0)) (heap_alloc_new w2 _)) (by simp [Value.oneCell']) (by omega) (by unfold maxLen; omega) (by omega) (by simp; omega) (w2.heap.size + 1) (by simp) ?_; intro gg cap' w3 hown3 hgrow hat hlt; have hp1 : w3.heap[p]? = some (.cells #[.slice none 0 0, .int .i64 0, .slice none 0 0] 82 (0, 0)) := (hgrow.block p (by simp; omega) hpu').trans ((Below.heap_alloc _ _ _ hpl).trans H2.out); have hfz : w3.frozen? ⟨p, 0, none⟩ = false := thawOf hp1; have hcz : w3.cell? ⟨p, 0, none⟩ = some (.slice none 0 0) := cellOf hp1 rfl; have HP1 : Hid (w3.heap[p]? = some (.cells #[.slice none 0 0, .int .i64 0, .slice none 0 0] 82 (0, 0))) := hp1; clear hp1))
  all_goals
    obtain ⟨x2, hx2⟩ : ∃ x2, x2 = w3.setCell ⟨p, 0, none⟩ (sliceOf gg (0 + 1) cap') := ⟨_, rfl⟩
    obtain ⟨m1, m2, m3, m4, m5⟩ := mid_facts (S := fun j => j = p) (n := 0) (xs := []) (B := B) (Fr.refl _ w2) (fun _ => rfl) (fun r hr _ => by cases hr) HP1.out (World.ownsRow_nil w2 B 64 1) HB2.out HL2.out hBu' hgrow (by simpa using hown3)
    have hat' : w.heap.size ≤ gg := by
      rcases hat with e | e
      · cases e
      · omega
    rw [← hx2] at m1 m2 m3 m4 m5
    have hgoal : w3.setCell ⟨p, 0, none⟩ (.slice (some ⟨gg, 0, none⟩) 1 cap') = x2 := hx2.symm
    rw [hgoal]
    have hgl2 : gg < x2.heap.size := by obtain ⟨cg, hcg⟩ := rowBlock m4; exact ltOf hcg
    have d1 : x2.cell? ⟨p, 1, none⟩ = some (.int .i64 0) := cellOf m1 rfl
    have d2 : x2.cell? ⟨Bx, 0, none⟩ = some (ptrTo L) := cellOf m2 rfl
    have d3 : x2.cell? ⟨L, 9, none⟩ = some (.bool wt) := cellOf m3 rfl
    have d4 : x2.frozen? ⟨p, 1, none⟩ = false := thawOf m1
    have H1 : Hid (x2.heap[p]? = _) := m1
    have H3 : Hid (x2.heap[L]? = _) := m3
    have H4 : Hid (x2.ownsRow B 64 1 _ _ _) := m4
    have H5 : Hid (Fr (fun j => j = p) w2 x2) := m5
    have HNR2 : Hid (NewRow w w2 B X N (fil M h).length p R' capR V rh hs h ((fil M h).map fun g => ptrTo g.p)) := by rw [HNl.out] at HNR1; exact HNR1
    clear hgoal hx2 m1 m2 m3 m4 m5 hat hgrow hown3 hcz hfz HP1 c0 cB
    cases wt
    · go_wp2_with fail
      go_end0
      have hp' : (x2.setCell ⟨p, 1, none⟩ (.int .i64 1)).heap[p]? = some (.cells #[sliceOf gg (0 + 1) cap', .int .i64 1, .slice none 0 0] 82 (0, 0)) := set_granted H1.out
      obtain ⟨cg, hcg⟩ := rowBlock H4.out
      have hL' : (x2.setCell ⟨p, 1, none⟩ (.int .i64 1)).heap[L]? = some (lockObj m k false) := by
        rw [Below.heap_setCell _ _ _ _ (ne_of_ty H3.out H1.out (by decide))]; exact H3.out
      have hf' := H5.out.setCell (p := ⟨p, 1, none⟩) (fun _ => rfl) (.int .i64 1)
      have hrw := row_of_block H4.out (Below.heap_setCell x2 ⟨p, 1, none⟩ (.int .i64 1) gg (ne_of_ty hcg H1.out (by decide)))
      exact ⟨rfl, p, gg, cap', R', capR, w2, HNR2.out, by omega, hat', by simpa [World.setCell] using hgl2, ⟨hp', by show B ≤ p; omega, by simpa using hrw, by simp, by simp, by simp, by simp, fun l hl => by simp at hl; subst hl; exact ⟨false, hL'⟩⟩, hL', hf', hRp⟩
    · go_wp2_with fail
      go_end0
      exact ⟨rfl, p, gg, cap', R', capR, w2, HNR2.out, by omega, hat', hgl2, ⟨H1.out, by show B ≤ p; omega, by simpa using H4.out, by simp, by simp, by simp, by simp, fun l hl => by simp at hl; subst hl; exact ⟨true, H3.out⟩⟩, H3.out, H5.out, hRp⟩
end Go.Proofs.Ybulkdgpw
