import Derived.Test.YbulkdgpwCModel
namespace Go.Proofs.Ybulkdgpw
open Go.ChangeShapes Go.WideShapes Go.ChangeAt Go.RowKit Go.Maps
set_option linter.unusedVariables false

/-- The steps, as they lie. -/
structure StepsAt (w : World) (a : Option Addr) (n : Nat) (sa sb sc : Nat → Int) (sd : Nat → Bool) : Prop where
  at_ : 0 < n → ∃ b off, a = some ⟨b, off, none⟩ ∧ b < w.heap.size ∧ ∀ j, j < n → w.cell? ⟨b, off + j * 4, none⟩ = some (.int .u16 (sa j)) ∧ w.cell? ⟨b, off + j * 4 + 1, none⟩ = some (.int .u8 (sb j)) ∧ w.cell? ⟨b, off + j * 4 + 2, none⟩ = some (.int .u8 (sc j)) ∧ w.cell? ⟨b, off + j * 4 + 3, none⟩ = some (.bool (sd j))
  bd : ∀ j, 0 ≤ sa j ∧ sa j ≤ 65535 ∧ 0 ≤ sb j ∧ sb j ≤ 255 ∧ 0 ≤ sc j ∧ sc j ≤ 255

/-- All that the law has made after k rounds. -/
structure CInv (w wr : World) (B k : Nat) (hs : List Int) (Mb : List BG) (Mm : List MG) (am ah : Option Addr) (cM cH : Nat) : Prop where
  bi : ∃ N V rh, N ≤ k ∧ BInv wr B B N V rh hs Mb
  mi : MInv wr B am cM Mm
  hi : HInv wr B ah cH hs
  same : Mb.map BG.key = Mm.map MG.key
  sep : ∀ g ∈ Mb, ∀ g' ∈ Mm, g.u ≠ g'.u
  below : Below B w wr
  size : B < wr.heap.size
  len : Mb.length ≤ k
  each : ∀ g ∈ Mb, g.ls.length ≤ k ∧ g.gr ≤ k
  hl : hs.length ≤ k


abbrev stepObj (xa xb xc : Int) (xd : Bool) : Obj := .cells #[.int .u16 xa, .int .u8 xb, .int .u8 xc, .bool xd] 61

/-- Behind 'ix.add(h, l)', before the model is turned. -/
structure CMid (w w' : World) (B k : Nat) (hs hs' : List Int) (Mb' : List BG) (Mm : List MG) (am ah : Option Addr) (cM cH S0 L : Nat) (xa xb xc m kk : Int) (xd : Bool) : Prop where
  bi : ∃ N V rh, N ≤ k + 1 ∧ BInv w' B B N V rh hs' Mb'
  mi : MInv w' B am cM Mm
  hi : HInv w' B ah cH hs
  sep : ∀ g ∈ Mb', ∀ g' ∈ Mm, g.u ≠ g'.u
  below : Below B w w'
  size : B < w'.heap.size
  len : Mb'.length ≤ k + 1
  each : ∀ g ∈ Mb', g.ls.length ≤ k + 1 ∧ g.gr ≤ k + 1
  step : w'.heap[S0]? = some (stepObj xa xb xc xd)
  lock : w'.heap[L]? = some (lockObj m kk xd)
  hl : hs'.length ≤ k + 1

def mtM (h m kk : Int) (g : MG) : Bool := g.h == h && g.m == m && g.k == kk

theorem split_first (p : MG → Bool) : ∀ Mm : List MG, (∃ A g Bs, Mm = A ++ g :: Bs ∧ p g = true ∧ ∀ x ∈ A, p x = false) ∨ ∀ x ∈ Mm, p x = false
  | [] => Or.inr (by simp)
  | y :: r => by
    cases hy : p y
    · rcases split_first p r with ⟨A, g, Bs, e, h1, h2⟩ | h
      · refine Or.inl ⟨y :: A, g, Bs, by rw [e]; rfl, h1, fun x hx => ?_⟩
        rcases List.mem_cons.1 hx with rfl | hx
        · exact hy
        · exact h2 x hx
      · refine Or.inr (fun x hx => ?_)
        rcases List.mem_cons.1 hx with rfl | hx
        · exact hy
        · exact h x hx
    · exact Or.inl ⟨[], y, r, rfl, hy, by simp⟩

theorem key_eq {g : BG} {g' : MG} (h : g.key = g'.key) : g.h = g'.h ∧ g.m = g'.m ∧ g.k = g'.k ∧ g.gr = g'.gr ∧ g.ls = g'.ls := by
  simpa [BG.key, MG.key] using h

theorem key_split {Mb : List BG} {A Bs : List MG} {g : MG} (h : Mb.map BG.key = (A ++ g :: Bs).map MG.key) : ∃ A' g' Bs', Mb = A' ++ g' :: Bs' ∧ A'.map BG.key = A.map MG.key ∧ g'.key = g.key ∧ Bs'.map BG.key = Bs.map MG.key := by
  rw [List.map_append, List.map_cons] at h
  obtain ⟨A', R, rfl, h1, h2⟩ := List.map_eq_append_iff.1 h
  obtain ⟨g', Bs', rfl, h3, h4⟩ := List.map_eq_cons_iff.1 h2
  exact ⟨A', g', Bs', rfl, h1, h3, h4⟩

theorem key_mem {Mb : List BG} {Mm : List MG} (h : Mb.map BG.key = Mm.map MG.key) {g : BG} (hg : g ∈ Mb) : ∃ g' ∈ Mm, g.key = g'.key := by
  have : g.key ∈ Mm.map MG.key := by rw [← h]; exact List.mem_map.2 ⟨g, hg, rfl⟩
  obtain ⟨g', h1, h2⟩ := List.mem_map.1 this
  exact ⟨g', h1, h2.symm⟩

theorem match_of {h m kk : Int} {g : BG} {g' : MG} (e : g.key = g'.key) : (g.h = h ∧ mt m kk g = true) ↔ mtM h m kk g' = true := by
  obtain ⟨e1, e2, e3, _, _⟩ := key_eq e
  simp [mt, mtM, e1, e2, e3, and_assoc]

/-- The start of a round: a step's block and a lock's block are laid. -/
theorem start_fr (wr : World) (o1 o2 : Obj) : Fr (fun _ => False) wr ((wr.alloc o1).alloc o2) := ((Fr.refl _ wr).alloc o1).alloc o2

set_option maxHeartbeats 800000 in
theorem add_step_found (w wr : World) (B k : Nat) (hs : List Int) (Mb : List BG) (A Bs : List MG) (g : MG) (am ah : Option Addr) (cM cH : Nat) (xa xb xc h m kk : Int) (xd : Bool) (C : CInv w wr B k hs Mb (A ++ g :: Bs) am ah cM cH) (hk : k ≤ 1024)
    (hg : mtM h m kk g = true) (hA : ∀ x ∈ A, mtM h m kk x = false) (hh : okH h) :
    Calls Yba.prog 8 #[.map (some B), .int .u16 h, ptrTo (wr.heap.size + 1)] ((wr.alloc (stepObj xa xb xc xd)).alloc (lockObj m kk xd)) fun e w' => e = .returned (.tuple #[]) ∧ ∃ Mb', CMid w w' B k hs hs Mb' (A ++ g :: Bs) am ah cM cH wr.heap.size (wr.heap.size + 1) xa xb xc m kk xd ∧
      Mb'.map BG.key = A.map MG.key ++ (g.h, g.m, g.k, g.gr + (if xd then 0 else 1), g.ls ++ [wr.heap.size + 1]) :: Bs.map MG.key := by
  obtain ⟨N, V, rh, hN, I⟩ := C.bi
  obtain ⟨A', g', Bs', rfl, k1, k2, k3⟩ := key_split C.same
  have hf := start_fr wr (stepObj xa xb xc xd) (lockObj m kk xd)
  have I0 : BInv ((wr.alloc (stepObj xa xb xc xd)).alloc (lockObj m kk xd)) B B N V rh hs (A' ++ g' :: Bs') := I.fr hf (fun e => e) (fun _ _ _ _ _ e => e) (fun _ _ e => e)
  have hL : ((wr.alloc (stepObj xa xb xc xd)).alloc (lockObj m kk xd)).heap[wr.heap.size + 1]? = some (lockObj m kk xd) := by
    have := (MapKept.heap_alloc (wr.alloc (stepObj xa xb xc xd)) (lockObj m kk xd)).1
    simpa using this
  have hSt : ((wr.alloc (stepObj xa xb xc xd)).alloc (lockObj m kk xd)).heap[wr.heap.size]? = some (stepObj xa xb xc xd) := by
    rw [Below.heap_alloc _ _ _ (by simp)]; exact (MapKept.heap_alloc wr _).1
  have hgm := (match_of (h := h) (m := m) (kk := kk) k2).2 hg
  have hg'M : g' ∈ A' ++ g' :: Bs' := by simp
  have he := C.each g' hg'M
  have hgk := key_eq k2
  refine (add_found B B N (wr.heap.size + 1) V rh hs (A' ++ g' :: Bs') A' Bs' g' h m kk xd _ I0 rfl hgm (fun x hx hm => ?_) hh hL (by omega) (by omega)).mono ?_
  · have : x.key ∈ A.map MG.key := by rw [← k1]; exact List.mem_map.2 ⟨x, hx, rfl⟩
    obtain ⟨y, hy, e⟩ := List.mem_map.1 this
    have := (match_of e.symm).1 hm
    rw [hA y hy] at this; cases this
  rintro e w' ⟨rfl, u', c', hat, hu', hul, hLw, hF⟩
  have hga := I0.grp g' hg'M
  obtain ⟨cu, hcu⟩ := rowBlock hga.own
  obtain ⟨cu0, hcu0⟩ := rowBlock (I.grp g' hg'M).own
  have hnS : ∀ (j : Nat) (c : Array Value) (t : TypeId), t ≠ 82 → t ≠ 64 → ((wr.alloc (stepObj xa xb xc xd)).alloc (lockObj m kk xd)).heap[j]? = some (Obj.cells c t (0, 0)) → ¬ (j = g'.p ∨ j = g'.u) := fun j c t h1 h2 hj e => by
    rcases e with e | e
    · exact ne_of_ty hj hga.obj h1 e
    · exact ne_of_ty hj hcu h2 e
  have hmu : ∀ x ∈ A ++ g :: Bs, x.u < wr.heap.size := fun x hx => by obtain ⟨cx, hcx⟩ := rowBlock (C.mi.grp x hx); exact ltOf hcx
  have M0 : MInv ((wr.alloc (stepObj xa xb xc xd)).alloc (lockObj m kk xd)) B am cM (A ++ g :: Bs) := C.mi.fr hf (fun _ _ _ e => e) (fun _ _ e => e)
  have H0 : HInv ((wr.alloc (stepObj xa xb xc xd)).alloc (lockObj m kk xd)) B ah cH hs := C.hi.fr hf (fun _ _ _ e => e)
  have hsz : ((wr.alloc (stepObj xa xb xc xd)).alloc (lockObj m kk xd)).heap.size = wr.heap.size + 2 := by simp
  have hBp := hga.pB
  have hBu := rowBase hga.own
  refine ⟨rfl, A' ++ g'.plus (wr.heap.size + 1) xd u' c' :: Bs', ⟨⟨N, V, rh, by omega, I0.turn hat hu' hF⟩, M0.fr hF (fun j c hj => hnS j c 75 (by decide) (by decide) hj) (fun x hx e => ?_), H0.fr hF (fun j c hj => hnS j c 59 (by decide) (by decide) hj), fun x hx y hy => ?_, ?_, ?_, ?_, fun x hx => ?_, (hF.block _ (ltOf hSt) (hnS _ _ 61 (by decide) (by decide) hSt)).trans hSt, hLw, by have := C.hl; omega⟩, ?_⟩
  · rcases e with e | e
    · obtain ⟨cx, hcx⟩ := rowBlock (M0.grp x hx)
      exact ne_of_ty hcx hga.obj (by decide) e
    · exact C.sep g' hg'M x hx e.symm
  · have hx' : x ∈ A' ∨ x = g'.plus (wr.heap.size + 1) xd u' c' ∨ x ∈ Bs' := by simpa using hx
    rcases hx' with hx' | rfl | hx'
    · exact C.sep x (by simp [hx']) y hy
    · show u' ≠ y.u
      rcases hu' with rfl | hu'
      · exact C.sep g' hg'M y hy
      · have := hmu y hy; omega
    · exact C.sep x (by simp [hx']) y hy
  · exact C.below.trans (((hf.mono (fun _ e => e.elim)).trans (hF.mono (S' := fun j => j = g'.p ∨ j = g'.u) (fun _ e => e))).below (Nat.le_of_lt C.size) (fun j e => by rcases e with rfl | rfl <;> assumption))
  · have := hF.size; have := C.size; omega
  · have := C.len; simp at this ⊢; omega
  · have hx' : x ∈ A' ∨ x = g'.plus (wr.heap.size + 1) xd u' c' ∨ x ∈ Bs' := by simpa using hx
    rcases hx' with hx' | rfl | hx'
    · have := C.each x (by simp [hx']); omega
    · simp only [BG.plus, List.length_append, List.length_singleton]
      refine ⟨by omega, ?_⟩
      split <;> omega
    · have := C.each x (by simp [hx']); omega
  · rw [List.map_append, List.map_cons, k1, k3]
    obtain ⟨e1, e2, e3, e4, e5⟩ := hgk
    simp [BG.key, BG.plus, e1, e2, e3, e4, e5]

set_option maxHeartbeats 800000 in
theorem add_step_new (w wr : World) (B k : Nat) (hs : List Int) (Mb : List BG) (Mm : List MG) (am ah : Option Addr) (cM cH : Nat) (xa xb xc h m kk : Int) (xd : Bool) (C : CInv w wr B k hs Mb Mm am ah cM cH) (hk : k ≤ 1024)
    (hA : ∀ x ∈ Mm, mtM h m kk x = false) (hh : okH h) :
    Calls Yba.prog 8 #[.map (some B), .int .u16 h, ptrTo (wr.heap.size + 1)] ((wr.alloc (stepObj xa xb xc xd)).alloc (lockObj m kk xd)) fun e w' => e = .returned (.tuple #[]) ∧ ∃ Mb', CMid w w' B k hs (addTo hs h) Mb' Mm am ah cM cH wr.heap.size (wr.heap.size + 1) xa xb xc m kk xd ∧
      Mb'.map BG.key = Mm.map MG.key ++ [(h, m, kk, (if xd then 0 else 1), [wr.heap.size + 1])] := by
  obtain ⟨N, V, rh, hN, I⟩ := C.bi
  have hf := start_fr wr (stepObj xa xb xc xd) (lockObj m kk xd)
  have I0 : BInv ((wr.alloc (stepObj xa xb xc xd)).alloc (lockObj m kk xd)) B B N V rh hs Mb := I.fr hf (fun e => e) (fun _ _ _ _ _ e => e) (fun _ _ e => e)
  have hL : ((wr.alloc (stepObj xa xb xc xd)).alloc (lockObj m kk xd)).heap[wr.heap.size + 1]? = some (lockObj m kk xd) := by
    have := (MapKept.heap_alloc (wr.alloc (stepObj xa xb xc xd)) (lockObj m kk xd)).1
    simpa using this
  have hSt : ((wr.alloc (stepObj xa xb xc xd)).alloc (lockObj m kk xd)).heap[wr.heap.size]? = some (stepObj xa xb xc xd) := by
    rw [Below.heap_alloc _ _ _ (by simp)]; exact (MapKept.heap_alloc wr _).1
  have hsz : ((wr.alloc (stepObj xa xb xc xd)).alloc (lockObj m kk xd)).heap.size = wr.heap.size + 2 := by simp
  have hlen := C.len
  have hsize := C.size
  refine (add_new B B N (wr.heap.size + 1) V rh hs Mb h m kk xd _ I0 (fun x hx hm => ?_) hh hL (by omega) (by omega) (by omega)).mono ?_
  · obtain ⟨y, hy, e⟩ := key_mem C.same hx
    have := (match_of e).1 hm
    rw [hA y hy] at this; cases this
  rintro e w' ⟨rfl, p, u', c', R', capR, w2, hnr, hpw, huw, hul, hat, hLw, hF2, hRp⟩
  obtain ⟨I1, hF⟩ := I0.more (g := ⟨h, m, kk, if xd then 0 else 1, [wr.heap.size + 1], u', c', p⟩) (by omega) hh hnr rfl hpw huw hat hF2 hRp
  obtain ⟨es, cc, hX⟩ := I0.mp.block
  have hnS : ∀ (j : Nat) (c : Array Value) (t : TypeId), t ≠ 79 → ((wr.alloc (stepObj xa xb xc xd)).alloc (lockObj m kk xd)).heap[j]? = some (Obj.cells c t (0, 0)) → ¬ (j = B ∨ (h ∈ hs ∧ j = rh h)) := fun j c t h1 hj e => by
    rcases e with e | ⟨e1, e⟩
    · rw [e, hX] at hj; cases hj
    · obtain ⟨cap, hv, ho⟩ := I0.row h e1
      rw [hv] at ho
      obtain ⟨cr, hcr⟩ := rowBlock ho
      exact ne_of_ty hj hcr h1 e
  have hmu : ∀ x ∈ Mm, x.u < wr.heap.size := fun x hx => by obtain ⟨cx, hcx⟩ := rowBlock (C.mi.grp x hx); exact ltOf hcx
  have M0 : MInv ((wr.alloc (stepObj xa xb xc xd)).alloc (lockObj m kk xd)) B am cM Mm := C.mi.fr hf (fun _ _ _ e => e) (fun _ _ e => e)
  have H0 : HInv ((wr.alloc (stepObj xa xb xc xd)).alloc (lockObj m kk xd)) B ah cH hs := C.hi.fr hf (fun _ _ _ e => e)
  refine ⟨rfl, Mb ++ [⟨h, m, kk, if xd then 0 else 1, [wr.heap.size + 1], u', c', p⟩], ⟨⟨N + 1, _, _, by omega, I1⟩, M0.fr hF (fun j c hj => hnS j c 75 (by decide) hj) (fun x hx => ?_), H0.fr hF (fun j c hj => hnS j c 59 (by decide) hj), fun x hx y hy => ?_, ?_, ?_, ?_, fun x hx => ?_, (hF.block _ (ltOf hSt) (hnS _ _ 61 (by decide) hSt)).trans hSt, hLw, ?_⟩, ?_⟩
  · obtain ⟨cx, hcx⟩ := rowBlock (M0.grp x hx)
    exact hnS _ _ 64 (by decide) hcx
  · rcases List.mem_append.1 hx with hx | hx
    · exact C.sep x hx y hy
    · rw [List.mem_singleton.1 hx]
      have := hmu y hy
      show u' ≠ y.u
      omega
  · refine C.below.trans (((hf.mono (fun _ e => e.elim)).trans (hF.mono (S' := fun j => j = B ∨ (h ∈ hs ∧ j = rh h)) (fun _ e => e))).below (Nat.le_of_lt C.size) (fun j e => ?_))
    rcases e with rfl | ⟨e1, rfl⟩
    · exact Nat.le_refl _
    · obtain ⟨cap, hv, ho⟩ := I.row h e1
      rw [hv] at ho
      exact rowBase ho
  · have := hF.size; omega
  · simp; omega
  · rcases List.mem_append.1 hx with hx | hx
    · have := C.each x hx; omega
    · rw [List.mem_singleton.1 hx]
      refine ⟨by simp, ?_⟩
      show (if xd then 0 else 1 : Int) ≤ _
      split <;> omega
  · have := C.hl
    unfold addTo
    split
    · omega
    · simp; omega
  · rw [List.map_append, C.same]; rfl

theorem CMid.move {w w' w'' : World} {B k : Nat} {hs hs' : List Int} {Mb' : List BG} {Mm : List MG} {am ah : Option Addr} {cM cH S0 L : Nat} {xa xb xc m kk : Int} {xd : Bool} (C : CMid w w' B k hs hs' Mb' Mm am ah cM cH S0 L xa xb xc m kk xd) (hf : Fr (fun _ => False) w' w'') :
    CMid w w'' B k hs hs' Mb' Mm am ah cM cH S0 L xa xb xc m kk xd := by
  obtain ⟨N, V, rh, hN, I⟩ := C.bi
  exact ⟨⟨N, V, rh, hN, I.fr hf (fun e => e) (fun _ _ _ _ _ e => e) (fun _ _ e => e)⟩, C.mi.fr hf (fun _ _ _ e => e) (fun _ _ e => e), C.hi.fr hf (fun _ _ _ e => e), C.sep, C.below.trans (hf.below (Nat.le_of_lt C.size) (fun _ e => e.elim)), Nat.lt_of_lt_of_le C.size hf.size, C.len, C.each,
    (hf.block _ (ltOf C.step) (fun e => e)).trans C.step, (hf.block _ (ltOf C.lock) (fun e => e)).trans C.lock, C.hl⟩

theorem CMid.finish {w W2 w4 : World} {S : Nat → Prop} {B k : Nat} {hs hs' : List Int} {Mb' : List BG} {Mm Mm' : List MG} {am ah am' ah' : Option Addr} {cM cH cM' cH' S0 L : Nat} {xa xb xc m kk : Int} {xd : Bool} (C : CMid w W2 B k hs hs' Mb' Mm am ah cM cH S0 L xa xb xc m kk xd) (hf : Fr S W2 w4)
    (hSt : ∀ (j : Nat) (c : Array Value) (t : TypeId), t = 79 ∨ t = 82 ∨ t = 71 → W2.heap[j]? = some (Obj.cells c t (0, 0)) → ¬ S j) (hX : ∀ es c, W2.heap[B]? = some (Obj.map es c) → ¬ S B) (hu : ∀ g ∈ Mb', ¬ S g.u) (hSB : ∀ j, S j → B ≤ j)
    (mi : MInv w4 B am' cM' Mm') (hi : HInv w4 B ah' cH' hs') (same : Mb'.map BG.key = Mm'.map MG.key) (hm : ∀ g' ∈ Mm', (∃ g ∈ Mm, g'.u = g.u) ∨ W2.heap.size ≤ g'.u) :
    CInv w w4 B (k + 1) hs' Mb' Mm' am' ah' cM' cH' := by
  obtain ⟨N, V, rh, hN, I⟩ := C.bi
  obtain ⟨es, c, hx⟩ := I.mp.block
  refine ⟨⟨N, V, rh, hN, I.fr hf (hX es c hx) hSt hu⟩, mi, hi, same, fun g hg g' hg' => ?_, C.below.trans (hf.below (Nat.le_of_lt C.size) hSB), Nat.lt_of_lt_of_le C.size hf.size, C.len, C.each, C.hl⟩
  rcases hm g' hg' with ⟨y, hy, e⟩ | h
  · rw [e]; exact C.sep g hg y hy
  · obtain ⟨cu, hcu⟩ := rowBlock (I.grp g hg).own
    have := ltOf hcu
    omega

/-- The round's end where the group was there: its locks grown, and granted once more or not. -/
theorem finish_found {w W2 w3 : World} {B k b cM gg cap L : Nat} {hs : List Int} {Mb' : List BG} {A Bs : List MG} {g : MG} {ah : Option Addr} {cH S0 : Nat} {xa xb xc m kk : Int} {xd : Bool} {o : Obj} (C : CMid w W2 B k hs hs Mb' (A ++ g :: Bs) (some ⟨b, 0, none⟩) ah cM cH S0 L xa xb xc m kk xd) (hk : k ≤ 1024)
    (hgb : g.ls.length ≤ k ∧ g.gr ≤ k ∧ 0 ≤ g.gr)
    (hgrow : (W2.alloc o).grownBy w3 (some g.u)) (hat : gg = g.u ∨ W2.heap.size ≤ gg) (hown : w3.ownsRow B 64 1 (sliceOf gg (g.ls.length + 1) cap) (g.ls.length + 1) (g.ls.map ptrTo ++ [ptrTo L]))
    (hsame : Mb'.map BG.key = A.map MG.key ++ (g.h, g.m, g.k, g.gr + (if xd then 0 else 1), g.ls ++ [L]) :: Bs.map MG.key) :
    Hid (xd = true → CInv w (w3.setCell ⟨b, A.length * 5 + 3, none⟩ (sliceOf gg (g.ls.length + 1) cap)) B (k + 1) hs Mb' (A ++ g.plus L gg cap :: Bs) (some ⟨b, 0, none⟩) ah cM cH) ∧
    Hid (xd = false → CInv w ((w3.setCell ⟨b, A.length * 5 + 3, none⟩ (sliceOf gg (g.ls.length + 1) cap)).setCell ⟨b, A.length * 5 + 4, none⟩ (.int .i64 (g.gr + 1))) B (k + 1) hs Mb' (A ++ (g.plus L gg cap).grant (g.gr + 1) :: Bs) (some ⟨b, 0, none⟩) ah cM cH) ∧
    (w3.setCell ⟨b, A.length * 5 + 3, none⟩ (sliceOf gg (g.ls.length + 1) cap)).heap[S0]? = some (stepObj xa xb xc xd) ∧ (w3.setCell ⟨b, A.length * 5 + 3, none⟩ (sliceOf gg (g.ls.length + 1) cap)).cell? ⟨b, A.length * 5 + 4, none⟩ = some (.int .i64 g.gr) ∧ (w3.setCell ⟨b, A.length * 5 + 3, none⟩ (sliceOf gg (g.ls.length + 1) cap)).frozen? ⟨b, A.length * 5 + 4, none⟩ = false := by
  have hgM : g ∈ A ++ g :: Bs := by simp
  obtain ⟨M4, f4⟩ := C.mi.turn (by omega) hgrow hat hown
  obtain ⟨cm, hcm⟩ := rowBlock C.mi.own
  obtain ⟨cu, hcu⟩ := rowBlock (C.mi.grp g hgM)
  have hnS : ∀ (j : Nat) (c : Array Value) (t : TypeId), t ≠ 75 → t ≠ 64 → W2.heap[j]? = some (Obj.cells c t (0, 0)) → ¬ (j = b ∨ j = g.u) := fun j c t h1 h2 hj e => by
    rcases e with e | e
    · exact ne_of_ty hj hcm h1 e
    · exact ne_of_ty hj hcu h2 e
  obtain ⟨N, V, rh, hN, I⟩ := C.bi
  have hub : ∀ x ∈ Mb', ¬ (x.u = b ∨ x.u = g.u) := fun x hx e => by
    rcases e with e | e
    · obtain ⟨cx, hcx⟩ := rowBlock (I.grp x hx).own
      exact ne_of_ty hcx hcm (by decide) e
    · exact C.sep x hx g hgM e
  have hSt : ∀ (j : Nat) (c : Array Value) (t : TypeId), t = 79 ∨ t = 82 ∨ t = 71 → W2.heap[j]? = some (Obj.cells c t (0, 0)) → ¬ (j = b ∨ j = g.u) := fun j c t ht hj => by
    rcases ht with rfl | rfl | rfl
    · exact hnS j c 79 (by decide) (by decide) hj
    · exact hnS j c 82 (by decide) (by decide) hj
    · exact hnS j c 71 (by decide) (by decide) hj
  have hX : ∀ es c, W2.heap[B]? = some (Obj.map es c) → ¬ (B = b ∨ B = g.u) := fun es c hx e => by
    rcases e with e | e
    · rw [e, hcm] at hx; cases hx
    · rw [e, hcu] at hx; cases hx
  have hSB : ∀ j, (j = b ∨ j = g.u) → B ≤ j := fun j e => by
    rcases e with rfl | rfl
    · exact rowBase C.mi.own
    · exact rowBase (C.mi.grp g hgM)
  have hmu : ∀ x ∈ A ++ g.plus L gg cap :: Bs, (∃ y ∈ A ++ g :: Bs, x.u = y.u) ∨ W2.heap.size ≤ x.u := fun x hx => by
    have hx' : x ∈ A ∨ x = g.plus L gg cap ∨ x ∈ Bs := by simpa using hx
    rcases hx' with h | rfl | h
    · exact Or.inl ⟨x, by simp [h], rfl⟩
    · rcases hat with e | e
      · exact Or.inl ⟨g, hgM, e⟩
      · exact Or.inr e
    · exact Or.inl ⟨x, by simp [h], rfl⟩
  have H4 := C.hi.fr f4 (fun j c hj => hnS j c 59 (by decide) (by decide) hj)
  have hget : (A ++ g.plus L gg cap :: Bs)[A.length]? = some (g.plus L gg cap) := by simp
  obtain ⟨b', eb, _, _, _, _, _, c4, hfz⟩ := M4.cells hget
  cases eb
  have hfb := f4.mono (S' := fun j => j = b ∨ j = g.u) (fun _ e => e)
  refine ⟨fun hx => ?_, fun hx => ?_, (f4.block _ (ltOf C.step) (hnS _ _ 61 (by decide) (by decide) C.step)).trans C.step, c4, hfz _⟩
  · refine C.finish f4 hSt hX hub hSB M4 H4 ?_ hmu
    rw [hsame, hx]
    simp [MG.key, MG.plus]
  · obtain ⟨M5, f5⟩ := M4.granted (gr := g.gr + 1) (by omega) (by omega)
    have f45 := f4.trans (f5.mono (S' := fun j => j = b ∨ j = g.u) (fun _ e => Or.inl e))
    refine C.finish f45 hSt hX hub hSB M5 (C.hi.fr f45 (fun j c hj => hnS j c 59 (by decide) (by decide) hj)) ?_ (fun x hx' => ?_)
    · rw [hsame, hx]
      simp [MG.key, MG.plus, MG.grant]
    · have hx2 : x ∈ A ∨ x = (g.plus L gg cap).grant (g.gr + 1) ∨ x ∈ Bs := by simpa using hx'
      rcases hx2 with h | rfl | h
      · exact Or.inl ⟨x, by simp [h], rfl⟩
      · exact hmu (g.plus L gg cap) (by simp)
      · exact Or.inl ⟨x, by simp [h], rfl⟩

theorem Fr.then {S S' : Nat → Prop} {a b c : World} (h : Fr S a b) (k : Fr S' b c) (hs : ∀ j, j < a.heap.size → ¬ S j → ¬ S' j) : Fr S a c :=
  ⟨k.os.trans h.os, k.tape.trans h.tape, k.output.trans h.output, Nat.le_trans h.size k.size, fun j hj hn => (k.block j (Nat.lt_of_lt_of_le hj h.size) (hs j hj hn)).trans (h.block j hj hn)⟩

/-- The blocks that a new group turns: the model's row, the heaps' row. -/
def NewS (W : World) (B : Nat) (j : Nat) : Prop := B ≤ j ∧ ∃ c t, (t = 75 ∨ t = 59) ∧ W.heap[j]? = some (Obj.cells c t (0, 0))

/-- The model's row has a new group without locks. -/
structure NewA (w W2 w3 : World) (B k bM cM : Nat) (hs hs' : List Int) (Mb' : List BG) (Mm : List MG) (ah : Option Addr) (cH S0 L : Nat) (xa xb xc h m kk : Int) (xd : Bool) : Prop where
  pre : MPre w3 B bM cM Mm h m kk
  hi : HInv w3 B ah cH hs'
  fr : Fr (NewS W2 B) W2 w3
  step : w3.heap[S0]? = some (stepObj xa xb xc xd)
  lock : w3.heap[L]? = some (lockObj m kk xd)

theorem newS_not {W : World} {B j : Nat} {c : Array Value} {t : TypeId} {fr : Nat × Nat} (h : W.heap[j]? = some (.cells c t fr)) (h1 : t ≠ 75) (h2 : t ≠ 59) : ¬ NewS W B j := by
  rintro ⟨_, c', t', ht, hc⟩
  rw [h] at hc
  simp only [Option.some.injEq, Obj.cells.injEq] at hc
  rcases ht with rfl | rfl
  · exact h1 hc.2.1
  · exact h2 hc.2.1

theorem newA_start {w W2 w3 : World} {B k bM cM cM3 : Nat} {hs hs' : List Int} {Mb' : List BG} {Mm : List MG} {am ah : Option Addr} {cH S0 L : Nat} {xa xb xc h m kk : Int} {xd : Bool} {o : Obj} (C : CMid w W2 B k hs hs' Mb' Mm am ah cM cH S0 L xa xb xc m kk xd)
    (hgrow : (W2.alloc o).grownBy w3 (Value.slice am Mm.length cM).ownBlock) (hown : w3.ownsRow B 75 5 (sliceOf bM (Mm.length + 1) cM3) (Mm.length + 1) (Mm.flatMap mcells ++ [.int .u16 h, .int .u8 m, .int .u8 kk, .slice none 0 0, .int .i64 0])) :
    NewA w W2 w3 B k bM cM3 hs hs Mb' Mm ah cH S0 L xa xb xc h m kk xd := by
  obtain ⟨P, f⟩ := C.mi.pre hgrow hown
  have f' : Fr (NewS W2 B) W2 w3 := f.mono (fun j ⟨h1, c, hc⟩ => ⟨h1, c, 75, Or.inl rfl, hc⟩)
  have hns : ∀ (j : Nat) (c : Array Value) (t : TypeId), t ≠ 75 → W2.heap[j]? = some (Obj.cells c t (0, 0)) → ¬ (B ≤ j ∧ ∃ c, W2.heap[j]? = some (Obj.cells c 75 (0, 0))) := fun j c t ht hj ⟨_, c', hc⟩ => ne_of_ty hj hc ht rfl
  exact ⟨P, C.hi.fr f (fun j c hj => hns j c 59 (by decide) hj), f', (f.block _ (ltOf C.step) (hns _ _ 61 (by decide) C.step)).trans C.step, (f.block _ (ltOf C.lock) (hns _ _ 71 (by decide) C.lock)).trans C.lock⟩

theorem newA_heap {w W2 w3 w5 : World} {B k bM cM : Nat} {hs : List Int} {Mb' : List BG} {Mm : List MG} {ah : Option Addr} {cH cH' bH S0 L : Nat} {xa xb xc h m kk : Int} {xd : Bool} {o : Obj} (P : NewA w W2 w3 B k bM cM hs hs Mb' Mm ah cH S0 L xa xb xc h m kk xd)
    (hgrow : (w3.alloc o).grownBy w5 (Value.slice ah hs.length cH).ownBlock) (hown : w5.ownsRow B 59 1 (sliceOf bH (hs.length + 1) cH') (hs.length + 1) (hs.map (Value.int .u16) ++ [.int .u16 h])) :
    NewA w W2 w5 B k bM cM hs (hs ++ [h]) Mb' Mm (some ⟨bH, 0, none⟩) cH' S0 L xa xb xc h m kk xd := by
  obtain ⟨H, f⟩ := P.hi.more hgrow hown
  obtain ⟨_, _, cb, hcb⟩ := P.pre.cells
  have hns : ∀ (j : Nat) (c : Array Value) (t : TypeId), t ≠ 59 → w3.heap[j]? = some (Obj.cells c t (0, 0)) → ¬ (B ≤ j ∧ ∃ c, w3.heap[j]? = some (Obj.cells c 59 (0, 0))) := fun j c t ht hj ⟨_, c', hc⟩ => ne_of_ty hj hc ht rfl
  refine ⟨P.pre.fr f (hns _ _ 75 (by decide) hcb) (fun g hg => ?_), H, P.fr.then f (fun j hj hn hs' => ?_), (f.block _ (ltOf P.step) (hns _ _ 61 (by decide) P.step)).trans P.step, (f.block _ (ltOf P.lock) (hns _ _ 71 (by decide) P.lock)).trans P.lock⟩
  · obtain ⟨cu, hcu⟩ := rowBlock (P.pre.grp g hg)
    exact hns _ _ 64 (by decide) hcu
  · obtain ⟨h1, c, hc⟩ := hs'
    rw [P.fr.block j hj hn] at hc
    exact hn ⟨h1, c, 59, Or.inr rfl, hc⟩

/-- The round's end where the group is new. -/
theorem finish_new {w W2 w5 w6 : World} {B k bM cM3 gg cap L : Nat} {hs hs' : List Int} {Mb' : List BG} {Mm : List MG} {am ah ah' : Option Addr} {cM cH cH' S0 : Nat} {xa xb xc h m kk : Int} {xd : Bool} {o : Obj} (C : CMid w W2 B k hs hs' Mb' Mm am ah cM cH S0 L xa xb xc m kk xd) (hk : k ≤ 1024)
    (P : NewA w W2 w5 B k bM cM3 hs hs' Mb' Mm ah' cH' S0 L xa xb xc h m kk xd)
    (hgrow : (w5.alloc o).grownBy w6 none) (hat : w5.heap.size ≤ gg) (hown : w6.ownsRow B 64 1 (sliceOf gg 1 cap) 1 [ptrTo L])
    (hsame : Mb'.map BG.key = Mm.map MG.key ++ [(h, m, kk, (if xd then 0 else 1), [L])]) :
    Hid (xd = true → CInv w (w6.setCell ⟨bM, Mm.length * 5 + 3, none⟩ (sliceOf gg 1 cap)) B (k + 1) hs' Mb' (Mm ++ [⟨h, m, kk, 0, [L], gg, cap⟩]) (some ⟨bM, 0, none⟩) ah' cM3 cH') ∧
    Hid (xd = false → CInv w ((w6.setCell ⟨bM, Mm.length * 5 + 3, none⟩ (sliceOf gg 1 cap)).setCell ⟨bM, Mm.length * 5 + 4, none⟩ (.int .i64 1)) B (k + 1) hs' Mb' (Mm ++ [(⟨h, m, kk, 0, [L], gg, cap⟩ : MG).grant 1]) (some ⟨bM, 0, none⟩) ah' cM3 cH') ∧
    (w6.setCell ⟨bM, Mm.length * 5 + 3, none⟩ (sliceOf gg 1 cap)).heap[S0]? = some (stepObj xa xb xc xd) ∧ (w6.setCell ⟨bM, Mm.length * 5 + 3, none⟩ (sliceOf gg 1 cap)).cell? ⟨bM, Mm.length * 5 + 4, none⟩ = some (.int .i64 0) ∧ (w6.setCell ⟨bM, Mm.length * 5 + 3, none⟩ (sliceOf gg 1 cap)).frozen? ⟨bM, Mm.length * 5 + 4, none⟩ = false := by
  obtain ⟨_, _, cb, hcb⟩ := P.pre.cells
  obtain ⟨M7, f7⟩ := P.pre.done hgrow hat hown
  obtain ⟨N, V, rh, hN, I⟩ := C.bi
  have hbS : ∀ j, j < W2.heap.size → ¬ NewS W2 B j → ¬ (j = bM) := fun j hj hn e => by
    subst e
    have hb := hcb
    rw [P.fr.block j hj hn] at hb
    exact hn ⟨rowBase P.pre.own, cb, 75, Or.inl rfl, hb⟩
  have f27 : Fr (NewS W2 B) W2 _ := P.fr.then f7 hbS
  have hSt : ∀ (j : Nat) (c : Array Value) (t : TypeId), t = 79 ∨ t = 82 ∨ t = 71 → W2.heap[j]? = some (Obj.cells c t (0, 0)) → ¬ NewS W2 B j := fun j c t ht hj => by
    rcases ht with rfl | rfl | rfl <;> exact newS_not hj (by decide) (by decide)
  have hX : ∀ es c, W2.heap[B]? = some (Obj.map es c) → ¬ NewS W2 B B := fun es c hx ⟨_, c', t, _, hc⟩ => by rw [hx] at hc; cases hc
  have hub : ∀ x ∈ Mb', ¬ NewS W2 B x.u := fun x hx => by
    obtain ⟨cx, hcx⟩ := rowBlock (I.grp x hx).own
    exact newS_not hcx (by decide) (by decide)
  have hmu : ∀ x ∈ Mm ++ [(⟨h, m, kk, 0, [L], gg, cap⟩ : MG)], (∃ y ∈ Mm, x.u = y.u) ∨ W2.heap.size ≤ x.u := fun x hx => by
    rcases List.mem_append.1 hx with hx | hx
    · exact Or.inl ⟨x, hx, rfl⟩
    · rw [List.mem_singleton.1 hx]
      refine Or.inr ?_
      have := P.fr.size
      show W2.heap.size ≤ gg
      omega
  have hns : ∀ (j : Nat) (c : Array Value) (t : TypeId), t ≠ 75 → w5.heap[j]? = some (Obj.cells c t (0, 0)) → ¬ (j = bM) := fun j c t ht hj => ne_of_ty hj hcb ht
  have hget : (Mm ++ [(⟨h, m, kk, 0, [L], gg, cap⟩ : MG)])[Mm.length]? = some ⟨h, m, kk, 0, [L], gg, cap⟩ := by simp
  obtain ⟨b', eb, _, _, _, _, _, c4, hfz⟩ := M7.cells hget
  cases eb
  refine ⟨fun hx => ?_, fun hx => ?_, (f7.block _ (ltOf P.step) (hns _ _ 61 (by decide) P.step)).trans P.step, c4, hfz _⟩
  · refine C.finish f27 hSt hX hub (fun j e => e.1) M7 (P.hi.fr f7 (fun j c hj => hns j c 59 (by decide) hj)) ?_ hmu
    rw [hsame, hx]
    simp [MG.key]
  · obtain ⟨M8, f8⟩ := M7.granted (A := Mm) (Bs := []) (gr := 1) (by omega) (by omega)
    have f78 := f7.trans f8
    have f28 : Fr (NewS W2 B) W2 _ := P.fr.then f78 hbS
    refine C.finish f28 hSt hX hub (fun j e => e.1) M8 (P.hi.fr f78 (fun j c hj => hns j c 59 (by decide) hj)) ?_ (fun x hx' => ?_)
    · rw [hsame, hx]
      simp [MG.key, MG.grant]
    · rcases List.mem_append.1 hx' with h1 | h1
      · exact Or.inl ⟨x, h1, rfl⟩
      · rw [List.mem_singleton.1 h1]
        exact hmu ⟨h, m, kk, 0, [L], gg, cap⟩ (by simp)
end Go.Proofs.Ybulkdgpw
