import Derived.Test.YbulkdgpwCStep
namespace Go.Proofs.Ybulkdgpw
open Go.ChangeShapes Go.WideShapes Go.ChangeAt Go.RowKit Go.Maps

/-! ### The list of heaps -/
def inH (hs : List Int) (h : Int) : Bool := hs.contains h
/-- The heaps: a slice of uint16. -/
structure HInv (w : World) (B : Nat) (ah : Option Addr) (cH : Nat) (hs : List Int) : Prop where
  own : w.ownsRow B 59 1 (.slice ah hs.length cH) hs.length (hs.map (Value.int .u16))

theorem HInv.cells {w : World} {B cH : Nat} {ah : Option Addr} {hs : List Int} (h : HInv w B ah cH hs) (hp : 0 < hs.length) : ∃ b, ah = some ⟨b, 0, none⟩ ∧ b < w.heap.size ∧ (∃ cur, w.heap[b]? = some (.cells cur 59 (0, 0))) ∧ ∀ i, i < hs.length → w.cell? ⟨b, i, none⟩ = some (.int .u16 (hs.getD i 0)) := by
  obtain ⟨g, cap, hv, _, hl⟩ := h.own.form hp
  have hv' : ah = some ⟨g, 0, none⟩ ∧ cH = cap := by simpa using hv
  obtain ⟨rfl, rfl⟩ := hv'
  refine ⟨g, rfl, hl, rowBlock h.own, fun i hi => ?_⟩
  rw [h.own.cellAt i (by simpa using hi)]
  simp [List.getD, hi]

theorem own_fr {S : Nat → Prop} {w w' : World} {B e s n : Nat} {v : Value} {xs : List Value} (h : w.ownsRow B e s v n xs) (hf : Fr S w w') (hs : ∀ k, v.ownBlock = some k → ¬ S k) : w'.ownsRow B e s v n xs := by
  refine ⟨h.1, ?_⟩
  rcases h.2 with hv | ⟨g, cap, cur, hv, hB, hh, r⟩
  · exact Or.inl hv
  · exact Or.inr ⟨g, cap, cur, hv, hB, (hf.block g (ltOf hh) (hs g (by rw [hv]; rfl))).trans hh, r⟩

theorem HInv.fr {S : Nat → Prop} {w w' : World} {B cH : Nat} {ah : Option Addr} {hs : List Int} (h : HInv w B ah cH hs) (hf : Fr S w w') (hS : ∀ k c, w.heap[k]? = some (Obj.cells c 59 (0, 0)) → ¬ S k) : HInv w' B ah cH hs :=
  ⟨own_fr h.own hf (fun k hk => by
    rcases h.own.2 with ⟨hv, _⟩ | ⟨g, cap, cur, hv, _, hh, _⟩
    · rw [hv] at hk; cases hk
    · rw [hv] at hk
      have : g = k := by simpa [Value.ownBlock] using hk
      exact hS k cur (this ▸ hh))⟩

set_option maxHeartbeats 800000 in
theorem has9 (hs : List Int) (h : Int) (ah : Option Addr) (n cH B : Nat) (w : World) (hn : Hid (hs.length = n)) (hl : n ≤ 100000) (H : HInv w B ah cH hs) :
    Calls Yba.prog 9 #[.slice ah n cH, .int .u16 h] w fun e w' => e = .returned (.bool (inH hs h)) ∧ w = w' := by
  go_enter Yba.func9, Yba.ntmps9
  go_wp2_with fail
  go_loop [5] (fun t => ∃ k : Nat, k ≤ n ∧ t = .int .i64 k ∧ Hid (∀ j, j < k → hs.getD j 0 ≠ h)) (fun t => n - (intOf t).toNat)
  case atStart => exact ⟨0, Nat.zero_le _, rfl, fun j hj => by omega⟩
  case round =>
    obtain ⟨k, hk, rfl, HN⟩ := hrel
    by_cases hlt : k < n
    · obtain ⟨b, rfl, _, _, hc⟩ := H.cells (by have := hn.out; omega)
      have hck := hc k (by have := hn.out; omega)
      clear hc
      obtain ⟨y, hy⟩ : ∃ y, y = hs.getD k 0 := ⟨_, rfl⟩
      rw [← hy] at hck
      have HY : Hid (y = hs.getD k 0) := hy
      clear hy
      by_cases hyh : (y == h) = true
      · have HT : Hid (inH hs h = true) := by
          show inH hs h = true
          have hkl : k < hs.length := by have := hn.out; omega
          have e : hs[k] = h := by have := HY.out; simp [List.getD, hkl] at this; rw [← this]; simpa using hyh
          unfold inH
          rw [← e]; simp
        go_wp2_with fail
        go_ret
        exact ⟨by rw [HT.out]; rfl, rfl⟩
      · have hyf : (y == h) = false := by simpa using hyh
        clear hyh
        go_wp2_with fail
        go_round
        case rel =>
          refine ⟨k + 1, by omega, by go_num, fun j hj => ?_⟩
          by_cases e : j = k
          · subst e; rw [← HY.out]; simpa using hyf
          · exact HN.out j (by omega)
        case measure => simp [intOf]; omega
    · have HT : Hid (inH hs h = false) := by
        show inH hs h = false
        unfold inH
        rw [Bool.eq_false_iff]
        intro hc
        have hm : h ∈ hs := by simpa using hc
        obtain ⟨j, hj, e⟩ := List.getElem_of_mem hm
        exact HN.out j (by have := hn.out; omega) (by simp [List.getD, hj, e])
      go_wp2_with fail
      go_ret
      exact ⟨by rw [HT.out]; rfl, rfl⟩

/-! ### The model -/
abbrev mcells (g : MG) : List Value := [.int .u16 g.h, .int .u8 g.m, .int .u8 g.k, sliceOf g.u g.ls.length g.c, .int .i64 g.gr]

structure MInv (w : World) (B : Nat) (am : Option Addr) (cM : Nat) (Mm : List MG) : Prop where
  own : w.ownsRow B 75 5 (.slice am Mm.length cM) Mm.length (Mm.flatMap mcells)
  grp : ∀ g ∈ Mm, w.ownsRow B 64 1 (sliceOf g.u g.ls.length g.c) g.ls.length (g.ls.map ptrTo)
  upw : (Mm.map fun g => g.u).Nodup
  bd : ∀ g ∈ Mm, g.ls.length ≤ 100000 ∧ 0 ≤ g.gr ∧ g.gr ≤ 100000

theorem flat_at : ∀ (Mm : List MG) (j : Nat) (g : MG) (i : Nat), i < 5 → Mm[j]? = some g → (Mm.flatMap mcells)[j * 5 + i]? = (mcells g)[i]?
  | [], j, g, i, _, h => by simp at h
  | x :: r, 0, g, i, hi, h => by
    have : x = g := by simpa using h
    subst this
    rw [List.flatMap_cons, List.getElem?_append_left (by simp; omega)]
    simp
  | x :: r, j + 1, g, i, hi, h => by
    have h' : r[j]? = some g := by simpa using h
    rw [List.flatMap_cons, List.getElem?_append_right (by simp; omega)]
    have e : (j + 1) * 5 + i - (mcells x).length = j * 5 + i := by simp; omega
    rw [e]
    exact flat_at r j g i hi h'

theorem MInv.cells {w : World} {B cM : Nat} {am : Option Addr} {Mm : List MG} (I : MInv w B am cM Mm) {j : Nat} {g : MG} (hj : Mm[j]? = some g) : ∃ b, am = some ⟨b, 0, none⟩ ∧ (∃ cur, w.heap[b]? = some (.cells cur 75 (0, 0))) ∧ w.cell? ⟨b, j * 5, none⟩ = some (.int .u16 g.h) ∧ w.cell? ⟨b, j * 5 + 1, none⟩ = some (.int .u8 g.m) ∧ w.cell? ⟨b, j * 5 + 2, none⟩ = some (.int .u8 g.k) ∧
    w.cell? ⟨b, j * 5 + 3, none⟩ = some (sliceOf g.u g.ls.length g.c) ∧ w.cell? ⟨b, j * 5 + 4, none⟩ = some (.int .i64 g.gr) ∧ ∀ o, w.frozen? ⟨b, o, none⟩ = false := by
  have hl : j < Mm.length := (List.getElem?_eq_some_iff.1 hj).1
  obtain ⟨b, cap, hv, _, _⟩ := I.own.form (by omega)
  have hv' : am = some ⟨b, 0, none⟩ ∧ cM = cap := by simpa using hv
  obtain ⟨rfl, rfl⟩ := hv'
  have key : ∀ i, i < 5 → w.cell? ⟨b, j * 5 + i, none⟩ = (mcells g)[i]? := fun i hi => by
    rw [I.own.cellAt (j * 5 + i) (by omega)]; exact flat_at Mm j g i hi hj
  exact ⟨b, rfl, rowBlock I.own, key 0 (by decide), key 1 (by decide), key 2 (by decide), key 3 (by decide), key 4 (by decide), fun o => I.own.frozenAt o⟩

theorem MInv.fr {S : Nat → Prop} {w w' : World} {B cM : Nat} {am : Option Addr} {Mm : List MG} (I : MInv w B am cM Mm) (hf : Fr S w w') (hS : ∀ k c, w.heap[k]? = some (Obj.cells c 75 (0, 0)) → ¬ S k) (hu : ∀ g ∈ Mm, ¬ S g.u) : MInv w' B am cM Mm := by
  refine ⟨own_fr I.own hf (fun k hk => ?_), fun g hg => own_fr (I.grp g hg) hf (fun k hk => ?_), I.upw, I.bd⟩
  · rcases I.own.2 with ⟨hv, _⟩ | ⟨g, cap, cur, hv, _, hh, _⟩
    · rw [hv] at hk; cases hk
    · rw [hv] at hk
      have : g = k := by simpa [Value.ownBlock] using hk
      exact hS k cur (this ▸ hh)
  · have : g.u = k := by simpa [Value.ownBlock] using hk
    rw [← this]; exact hu g hg

theorem BInv.fr {S : Nat → Prop} {w w' : World} {B X N : Nat} {V : Int → Value} {rh : Int → Nat} {hs : List Int} {M : List BG} (I : BInv w B X N V rh hs M) (hf : Fr S w w') (hX : ¬ S X)
    (hS : ∀ (k : Nat) (c : Array Value) (t : TypeId), t = 79 ∨ t = 82 ∨ t = 71 → w.heap[k]? = some (Obj.cells c t (0, 0)) → ¬ S k) (hu : ∀ g ∈ M, ¬ S g.u) : BInv w' B X N V rh hs M := by
  refine ⟨I.mp.of_block ?_, I.XB, I.hsok, fun h hh => ?_, I.nil, I.mem, I.rinj, fun g hg => ?_, I.upw, I.ppw, I.len⟩
  · obtain ⟨es, c, hx⟩ := I.mp.block
    exact hf.block X (ltOf hx) hX
  · obtain ⟨cap, hv, ho⟩ := I.row h hh
    refine ⟨cap, hv, ?_⟩
    rw [hv] at ho ⊢
    obtain ⟨cr, hcr⟩ := rowBlock ho
    exact row_of_block ho (hf.block _ (ltOf hcr) (hS _ _ _ (Or.inl rfl) hcr))
  · have hg' := I.grp g hg
    refine hg'.fr hf (hS _ _ _ (Or.inr (Or.inl rfl)) hg'.obj) (hu g hg) (fun l hl => ?_)
    obtain ⟨wt, ht⟩ := hg'.lock l hl
    exact hS _ _ _ (Or.inr (Or.inr rfl)) ht

/-! ### What a round does to the model -/
def MG.plus (g : MG) (L : Nat) (u c : Nat) : MG := { g with ls := g.ls ++ [L], u := u, c := c }
def MG.grant (g : MG) (gr : Int) : MG := { g with gr := gr }

theorem set_flat (A Bs : List MG) (g : MG) (i : Nat) (v : Value) (hi : i < 5) : ((A ++ g :: Bs).flatMap mcells).set (A.length * 5 + i) v = A.flatMap mcells ++ ((mcells g).set i v ++ Bs.flatMap mcells) := by
  have hl : (A.flatMap mcells).length = A.length * 5 := by induction A with
    | nil => rfl
    | cons x r ih => simp [List.flatMap_cons, ih]; omega
  rw [List.flatMap_append, List.flatMap_cons, List.set_append_right _ _ (by omega), hl]
  have e : A.length * 5 + i - A.length * 5 = i := by omega
  rw [e, List.set_append_left _ _ (by simpa using hi)]

theorem nodup_turn {α : Type} {f : α → Nat} {A Bs : List α} {g g' : α} {b : Nat} (h : ((A ++ g :: Bs).map f).Nodup) (hu : f g' = f g ∨ b ≤ f g') (hl : ∀ x ∈ A ++ g :: Bs, f x < b) : ((A ++ g' :: Bs).map f).Nodup := by
  rw [List.map_append, List.map_cons, List.nodup_append] at h ⊢
  rcases hu with hu | hu
  · rw [hu]; exact h
  · have hn : ∀ x ∈ A ++ g :: Bs, f x ≠ f g' := fun x hx e => by have := hl x hx; omega
    refine ⟨h.1, List.nodup_cons.2 ⟨fun hm => ?_, (List.nodup_cons.1 h.2.1).2⟩, fun a ha c hc => ?_⟩
    · obtain ⟨x, hx, e⟩ := List.mem_map.1 hm
      exact hn x (by simp [hx]) e
    · rcases List.mem_cons.1 hc with rfl | hc
      · obtain ⟨x, hx, e⟩ := List.mem_map.1 ha
        rw [← e]; exact hn x (by simp [hx])
      · exact h.2.2 a ha c (List.mem_cons_of_mem _ hc)

/-- 'model[found].locks = append(model[found].locks, l)'. -/
theorem MInv.turn {w w1 : World} {B b cM L gg cap : Nat} {A Bs : List MG} {g : MG} {o : Obj} (I : MInv w B (some ⟨b, 0, none⟩) cM (A ++ g :: Bs)) (hgl : g.ls.length ≤ 90000)
    (hgrow : (w.alloc o).grownBy w1 (some g.u)) (hat : gg = g.u ∨ w.heap.size ≤ gg) (hown : w1.ownsRow B 64 1 (sliceOf gg (g.ls.length + 1) cap) (g.ls.length + 1) (g.ls.map ptrTo ++ [ptrTo L])) :
    MInv (w1.setCell ⟨b, A.length * 5 + 3, none⟩ (sliceOf gg (g.ls.length + 1) cap)) B (some ⟨b, 0, none⟩) cM (A ++ g.plus L gg cap :: Bs) ∧ Fr (fun j => j = b ∨ j = g.u) w (w1.setCell ⟨b, A.length * 5 + 3, none⟩ (sliceOf gg (g.ls.length + 1) cap)) := by
  obtain ⟨cm, hcm⟩ := rowBlock I.own
  have hgM : g ∈ A ++ g :: Bs := by simp
  obtain ⟨cu, hcu⟩ := rowBlock (I.grp g hgM)
  have hbu : b ≠ g.u := ne_of_ty hcm hcu (by decide)
  have hb1 : w1.heap[b]? = some (.cells cm 75 (0, 0)) := (hgrow.block b (by have := ltOf hcm; simp; omega) (by simpa using hbu)).trans ((Below.heap_alloc _ _ _ (ltOf hcm)).trans hcm)
  have f1 : Fr (fun j => j = b ∨ j = g.u) w w1 := ((Fr.refl _ w).alloc o).grown hgrow (fun k hk _ => Or.inr (by simpa using hk.symm))
  have f2 := f1.setCell (p := ⟨b, A.length * 5 + 3, none⟩) (fun _ => Or.inl rfl) (sliceOf gg (g.ls.length + 1) cap)
  have hlen : (A ++ g.plus L gg cap :: Bs).length = (A ++ g :: Bs).length := by simp
  have hlt : ∀ x ∈ A ++ g :: Bs, x.u < w.heap.size := fun x hx => by obtain ⟨cx, hcx⟩ := rowBlock (I.grp x hx); exact ltOf hcx
  refine ⟨⟨?_, fun x hx => ?_, nodup_turn (f := fun x : MG => x.u) I.upw hat hlt, fun x hx => ?_⟩, f2⟩
  · have hr := ((row_of_block I.own (hb1.trans hcm.symm)).stored (A.length * 5 + 3) (sliceOf gg (g.ls.length + 1) cap)).1
    rw [set_flat A Bs g 3 _ (by decide)] at hr
    rw [hlen]
    simpa [MG.plus] using hr
  · have hx' : x ∈ A ∨ x = g.plus L gg cap ∨ x ∈ Bs := by simpa using hx
    have key : ∀ x ∈ A ++ Bs, w1.ownsRow B 64 1 (sliceOf x.u x.ls.length x.c) x.ls.length (x.ls.map ptrTo) ∧ x.u ≠ b := fun x hx => by
      have hxM : x ∈ A ++ g :: Bs := by simp at hx ⊢; rcases hx with h | h <;> simp [h]
      obtain ⟨cx, hcx⟩ := rowBlock (I.grp x hxM)
      have hne : x.u ≠ g.u := by
        have h2 := I.upw
        rw [List.map_append, List.map_cons, List.nodup_append] at h2
        rcases List.mem_append.1 hx with hx | hx
        · exact h2.2.2 x.u (List.mem_map.2 ⟨x, hx, rfl⟩) g.u (by simp)
        · exact fun e => (List.nodup_cons.1 h2.2.1).1 (List.mem_map.2 ⟨x, hx, e⟩)
      exact ⟨row_of_block (I.grp x hxM) ((hgrow.block x.u (by have := ltOf hcx; simp; omega) (by simpa using hne)).trans (Below.heap_alloc _ _ _ (ltOf hcx))), ne_of_ty hcx hcm (by decide)⟩
    rcases hx' with h | h | h
    · obtain ⟨k1, k2⟩ := key x (by simp [h])
      exact row_of_block k1 (Below.heap_setCell _ _ _ _ k2)
    · rw [h]
      obtain ⟨cg, hcg⟩ := rowBlock hown
      have := row_of_block hown (Below.heap_setCell w1 ⟨b, A.length * 5 + 3, none⟩ (sliceOf gg (g.ls.length + 1) cap) gg (ne_of_ty hcg hb1 (by decide)))
      simpa [MG.plus] using this
    · obtain ⟨k1, k2⟩ := key x (by simp [h])
      exact row_of_block k1 (Below.heap_setCell _ _ _ _ k2)
  · have hx' : x ∈ A ∨ x = g.plus L gg cap ∨ x ∈ Bs := by simpa using hx
    rcases hx' with h | h | h
    · exact I.bd x (by simp [h])
    · rw [h]
      have := I.bd g hgM
      simp only [MG.plus, List.length_append, List.length_singleton]
      omega
    · exact I.bd x (by simp [h])

/-- 'model[found].granted++'. -/
theorem MInv.granted {w : World} {B b cM : Nat} {A Bs : List MG} {g : MG} {gr : Int} (I : MInv w B (some ⟨b, 0, none⟩) cM (A ++ g :: Bs)) (h0 : 0 ≤ gr) (h1 : gr ≤ 100000) :
    MInv (w.setCell ⟨b, A.length * 5 + 4, none⟩ (.int .i64 gr)) B (some ⟨b, 0, none⟩) cM (A ++ g.grant gr :: Bs) ∧ Fr (fun j => j = b) w (w.setCell ⟨b, A.length * 5 + 4, none⟩ (.int .i64 gr)) := by
  obtain ⟨cm, hcm⟩ := rowBlock I.own
  have hlen : (A ++ g.grant gr :: Bs).length = (A ++ g :: Bs).length := by simp
  have hmem : ∀ x ∈ A ++ g.grant gr :: Bs, ∃ y ∈ A ++ g :: Bs, x.u = y.u ∧ x.ls = y.ls ∧ x.c = y.c ∧ (x = y ∨ x = g.grant gr) := fun x hx => by
    have hx' : x ∈ A ∨ x = g.grant gr ∨ x ∈ Bs := by simpa using hx
    rcases hx' with h | h | h
    · exact ⟨x, by simp [h], rfl, rfl, rfl, Or.inl rfl⟩
    · exact ⟨g, by simp, by rw [h]; rfl, by rw [h]; rfl, by rw [h]; rfl, Or.inr h⟩
    · exact ⟨x, by simp [h], rfl, rfl, rfl, Or.inl rfl⟩
  refine ⟨⟨?_, fun x hx => ?_, ?_, fun x hx => ?_⟩, (Fr.refl (fun j => j = b) w).setCell (p := ⟨b, A.length * 5 + 4, none⟩) (fun _ => rfl) _⟩
  · have hr := (I.own.stored (A.length * 5 + 4) (.int .i64 gr)).1
    rw [set_flat A Bs g 4 _ (by decide)] at hr
    rw [hlen]
    simpa [MG.grant] using hr
  · obtain ⟨y, hy, e1, e2, e3, _⟩ := hmem x hx
    rw [e1, e2, e3]
    obtain ⟨cy, hcy⟩ := rowBlock (I.grp y hy)
    exact row_of_block (I.grp y hy) (Below.heap_setCell _ _ _ _ (ne_of_ty hcy hcm (by decide)))
  · have := I.upw
    simpa [MG.grant] using this
  · obtain ⟨y, hy, e1, e2, e3, e4⟩ := hmem x hx
    rcases e4 with e4 | e4
    · rw [e4]; exact I.bd y hy
    · have := I.bd y hy
      rw [e2]
      refine ⟨this.1, ?_, ?_⟩ <;> rw [e4] <;> simp [MG.grant] <;> omega

/-- The model with a new group that has no lock yet. -/
structure MPre (w : World) (B bM cM : Nat) (Mm : List MG) (h m k : Int) : Prop where
  own : w.ownsRow B 75 5 (sliceOf bM (Mm.length + 1) cM) (Mm.length + 1) (Mm.flatMap mcells ++ [.int .u16 h, .int .u8 m, .int .u8 k, .slice none 0 0, .int .i64 0])
  grp : ∀ g ∈ Mm, w.ownsRow B 64 1 (sliceOf g.u g.ls.length g.c) g.ls.length (g.ls.map ptrTo)
  upw : (Mm.map fun g => g.u).Nodup
  bd : ∀ g ∈ Mm, g.ls.length ≤ 100000 ∧ 0 ≤ g.gr ∧ g.gr ≤ 100000

theorem flat_len (Mm : List MG) : (Mm.flatMap mcells).length = Mm.length * 5 := by
  induction Mm with
  | nil => rfl
  | cons x r ih => simp [List.flatMap_cons, ih]; omega

theorem MInv.pre {w w1 : World} {B bM cM cM' : Nat} {am : Option Addr} {Mm : List MG} {h m k : Int} {o : Obj} (I : MInv w B am cM Mm) (hgrow : (w.alloc o).grownBy w1 (Value.slice am Mm.length cM).ownBlock)
    (hown : w1.ownsRow B 75 5 (sliceOf bM (Mm.length + 1) cM') (Mm.length + 1) (Mm.flatMap mcells ++ [.int .u16 h, .int .u8 m, .int .u8 k, .slice none 0 0, .int .i64 0])) :
    MPre w1 B bM cM' Mm h m k ∧ Fr (fun j => B ≤ j ∧ ∃ c, w.heap[j]? = some (Obj.cells c 75 (0, 0))) w w1 := by
  have hrow : ∀ j, (Value.slice am Mm.length cM).ownBlock = some j → B ≤ j ∧ ∃ c, w.heap[j]? = some (Obj.cells c 75 (0, 0)) := fun j hj => by
    rcases I.own.2 with ⟨hv, _⟩ | ⟨g, cap, cur, hv, hB, hh, _⟩
    · rw [hv] at hj; cases hj
    · rw [hv] at hj
      have : g = j := by simpa [Value.ownBlock] using hj
      exact ⟨this ▸ hB, cur, this ▸ hh⟩
  have f1 : Fr (fun j => B ≤ j ∧ ∃ c, w.heap[j]? = some (Obj.cells c 75 (0, 0))) w w1 := ((Fr.refl _ w).alloc o).grown hgrow (fun j hj _ => hrow j hj)
  refine ⟨⟨hown, fun g hg => ?_, I.upw, I.bd⟩, f1⟩
  obtain ⟨cu, hcu⟩ := rowBlock (I.grp g hg)
  refine row_of_block (I.grp g hg) (f1.block _ (ltOf hcu) ?_)
  rintro ⟨_, c, hc⟩
  exact ne_of_ty hcu hc (by decide) rfl

theorem MPre.fr {S : Nat → Prop} {w w' : World} {B bM cM : Nat} {Mm : List MG} {h m k : Int} (I : MPre w B bM cM Mm h m k) (hf : Fr S w w') (hS : ¬ S bM) (hu : ∀ g ∈ Mm, ¬ S g.u) : MPre w' B bM cM Mm h m k :=
  ⟨own_fr I.own hf (fun j hj => by have : bM = j := by simpa [Value.ownBlock] using hj
                                   rw [← this]; exact hS), fun g hg => own_fr (I.grp g hg) hf (fun j hj => by
    have : g.u = j := by simpa [Value.ownBlock] using hj
    rw [← this]; exact hu g hg), I.upw, I.bd⟩

theorem MPre.cells {w : World} {B bM cM : Nat} {Mm : List MG} {h m k : Int} (I : MPre w B bM cM Mm h m k) : w.cell? ⟨bM, Mm.length * 5 + 3, none⟩ = some (.slice none 0 0) ∧ (∀ o, w.frozen? ⟨bM, o, none⟩ = false) ∧ ∃ cur, w.heap[bM]? = some (.cells cur 75 (0, 0)) := by
  refine ⟨?_, fun o => I.own.frozenAt o, rowBlock I.own⟩
  rw [I.own.cellAt _ (by omega), List.getElem?_append_right (by rw [flat_len]; omega), flat_len]
  have : Mm.length * 5 + 3 - Mm.length * 5 = 3 := by omega
  rw [this]; rfl

theorem MPre.done {w w1 : World} {B bM cM L gg cap : Nat} {Mm : List MG} {h m k : Int} {o : Obj} (I : MPre w B bM cM Mm h m k) (hgrow : (w.alloc o).grownBy w1 none) (hat : w.heap.size ≤ gg) (hown : w1.ownsRow B 64 1 (sliceOf gg 1 cap) 1 [ptrTo L]) :
    MInv (w1.setCell ⟨bM, Mm.length * 5 + 3, none⟩ (sliceOf gg 1 cap)) B (some ⟨bM, 0, none⟩) cM (Mm ++ [⟨h, m, k, 0, [L], gg, cap⟩]) ∧ Fr (fun j => j = bM) w (w1.setCell ⟨bM, Mm.length * 5 + 3, none⟩ (sliceOf gg 1 cap)) := by
  obtain ⟨cm, hcm⟩ := rowBlock I.own
  have f1 : Fr (fun j => j = bM) w w1 := ((Fr.refl _ w).alloc o).grown hgrow (fun j hj _ => by cases hj)
  have hb1 : w1.heap[bM]? = w.heap[bM]? := (hgrow.block bM (by have := ltOf hcm; simp; omega) (by simp)).trans (Below.heap_alloc _ _ _ (ltOf hcm))
  have hlt : ∀ x ∈ Mm, x.u < w.heap.size := fun x hx => by obtain ⟨cx, hcx⟩ := rowBlock (I.grp x hx); exact ltOf hcx
  have f2 := f1.setCell (p := ⟨bM, Mm.length * 5 + 3, none⟩) (fun _ => rfl) (sliceOf gg 1 cap)
  refine ⟨⟨?_, fun x hx => ?_, ?_, fun x hx => ?_⟩, f2⟩
  · have hr := ((row_of_block I.own hb1).stored (Mm.length * 5 + 3) (sliceOf gg 1 cap)).1
    rw [List.set_append_right _ _ (by rw [flat_len]; omega), flat_len] at hr
    have : Mm.length * 5 + 3 - Mm.length * 5 = 3 := by omega
    rw [this] at hr
    have e1 : (Mm ++ [(⟨h, m, k, 0, [L], gg, cap⟩ : MG)]).flatMap mcells = Mm.flatMap mcells ++ [.int .u16 h, .int .u8 m, .int .u8 k, sliceOf gg 1 cap, .int .i64 0] := by rw [List.flatMap_append]; rfl
    have e2 : (Mm ++ [(⟨h, m, k, 0, [L], gg, cap⟩ : MG)]).length = Mm.length + 1 := by simp
    rw [e1, e2]
    exact hr
  · rcases List.mem_append.1 hx with hx | hx
    · obtain ⟨cx, hcx⟩ := rowBlock (I.grp x hx)
      exact row_of_block (I.grp x hx) (f2.block _ (ltOf hcx) (ne_of_ty hcx hcm (by decide)))
    · rw [List.mem_singleton.1 hx]
      obtain ⟨cg, hcg⟩ := rowBlock hown
      have := row_of_block hown (Below.heap_setCell w1 ⟨bM, Mm.length * 5 + 3, none⟩ (sliceOf gg 1 cap) gg (ne_of_ty hcg (hb1.trans hcm) (by decide)))
      simpa using this
  · rw [List.map_append, List.map_cons, List.map_nil, List.nodup_append]
    refine ⟨I.upw, by simp, fun a ha c hc => ?_⟩
    rw [List.mem_singleton.1 hc]
    obtain ⟨x, hx, e⟩ := List.mem_map.1 ha
    have := hlt x hx
    show a ≠ gg
    omega
  · rcases List.mem_append.1 hx with hx | hx
    · exact I.bd x hx
    · rw [List.mem_singleton.1 hx]; simp

/-- 'heaps = append(heaps, h)'. -/
theorem HInv.more {w w1 : World} {B cH cH' bH : Nat} {ah : Option Addr} {hs : List Int} {h : Int} {o : Obj} (I : HInv w B ah cH hs) (hgrow : (w.alloc o).grownBy w1 (Value.slice ah hs.length cH).ownBlock)
    (hown : w1.ownsRow B 59 1 (sliceOf bH (hs.length + 1) cH') (hs.length + 1) (hs.map (Value.int .u16) ++ [.int .u16 h])) :
    HInv w1 B (some ⟨bH, 0, none⟩) cH' (hs ++ [h]) ∧ Fr (fun j => B ≤ j ∧ ∃ c, w.heap[j]? = some (Obj.cells c 59 (0, 0))) w w1 := by
  have hrow : ∀ j, (Value.slice ah hs.length cH).ownBlock = some j → B ≤ j ∧ ∃ c, w.heap[j]? = some (Obj.cells c 59 (0, 0)) := fun j hj => by
    rcases I.own.2 with ⟨hv, _⟩ | ⟨g, cap, cur, hv, hB, hh, _⟩
    · rw [hv] at hj; cases hj
    · rw [hv] at hj
      have : g = j := by simpa [Value.ownBlock] using hj
      exact ⟨this ▸ hB, cur, this ▸ hh⟩
  exact ⟨⟨by simpa using hown⟩, ((Fr.refl _ w).alloc o).grown hgrow (fun j hj _ => hrow j hj)⟩
end Go.Proofs.Ybulkdgpw
