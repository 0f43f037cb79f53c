import Derived.Test.YbulkdgpwCParts
namespace Go.Proofs.Ybulkdgpw
open Go.ChangeShapes Go.WideShapes Go.ChangeAt Go.RowKit Go.Maps
set_option linter.unusedVariables false

/-- What the law's check reads. -/
structure EInv (w W : World) (B N : Nat) (V : Int → Value) (rh : Int → Nat) (hs : List Int) (Mb : List BG) (Mm : List MG) (am ah : Option Addr) (cM cH : Nat) : Prop where
  bi : BInv W B B N V rh hs Mb
  mi : MInv W B am cM Mm
  hi : HInv W B ah cH hs
  below : Below B w W
  same : Mb.map BG.key = Mm.map MG.key
  size : B < W.heap.size

theorem EInv.fr {w W W' : World} {B N : Nat} {V : Int → Value} {rh : Int → Nat} {hs : List Int} {Mb : List BG} {Mm : List MG} {am ah : Option Addr} {cM cH : Nat} (E : EInv w W B N V rh hs Mb Mm am ah cM cH) (hf : Fr (fun _ => False) W W') : EInv w W' B N V rh hs Mb Mm am ah cM cH :=
  ⟨E.bi.fr hf (fun e => e) (fun _ _ _ _ _ e => e) (fun _ _ e => e), E.mi.fr hf (fun _ _ _ e => e) (fun _ _ e => e), E.hi.fr hf (fun _ _ _ e => e), E.below.trans (hf.below (Nat.le_of_lt E.size) (fun _ e => e.elim)), E.same, Nat.lt_of_lt_of_le E.size hf.size⟩

/-- How many of the first j groups are of heap h. -/
def cnt (Mb : List BG) (j : Nat) (h : Int) : Nat := (fil (Mb.take j) h).length

theorem cut_at {Mb : List BG} {j : Nat} {g : BG} (hg : Mb[j]? = some g) : Mb = Mb.take j ++ g :: Mb.drop (j + 1) ∧ Mb.take (j + 1) = Mb.take j ++ [g] := by
  obtain ⟨hj, e⟩ := List.getElem?_eq_some_iff.1 hg
  have h1 : Mb.take (j + 1) = Mb.take j ++ [g] := by rw [List.take_add_one, hg]; rfl
  refine ⟨?_, h1⟩
  have h2 := List.take_append_drop (j + 1) Mb
  rw [h1, List.append_assoc] at h2
  exact h2.symm

theorem fil_app (A Bs : List BG) (h : Int) : fil (A ++ Bs) h = fil A h ++ fil Bs h := by simp [fil]

theorem cnt_ne {Mb : List BG} {j : Nat} {g : BG} {h : Int} (hg : Mb[j]? = some g) (hh : (g.h == h) = false) : cnt Mb (j + 1) h = cnt Mb j h := by
  unfold cnt
  rw [(cut_at hg).2, fil_app]
  simp [fil, hh]

theorem cnt_eq {Mb : List BG} {j : Nat} {g : BG} {h : Int} (hg : Mb[j]? = some g) (hh : (g.h == h) = true) : cnt Mb (j + 1) h = cnt Mb j h + 1 ∧ (fil Mb h)[cnt Mb j h]? = some g := by
  unfold cnt
  constructor
  · rw [(cut_at hg).2, fil_app]
    simp [fil, hh]
  · have := (cut_at hg).1
    have e : fil Mb h = fil (Mb.take j) h ++ g :: fil (Mb.drop (j + 1)) h := by
      conv => lhs; rw [this]
      rw [fil_app]
      congr 1
      simp [fil, hh]
    rw [e]
    simp

theorem cnt_le (Mb : List BG) (j : Nat) (h : Int) : cnt Mb j h ≤ (fil Mb h).length := by
  unfold cnt
  have e : fil Mb h = fil (Mb.take j) h ++ fil (Mb.drop j) h := by rw [← fil_app, List.take_append_drop]
  rw [e]; simp

theorem cnt_full (Mb : List BG) (h : Int) : cnt Mb Mb.length h = (fil Mb h).length := by
  unfold cnt; rw [List.take_length]

theorem same_at {Mb : List BG} {Mm : List MG} (h : Mb.map BG.key = Mm.map MG.key) {j : Nat} {x : MG} (hx : Mm[j]? = some x) : ∃ g, Mb[j]? = some g ∧ g.key = x.key := by
  have h1 : (Mb.map BG.key)[j]? = some x.key := by rw [h, List.getElem?_map, hx]; rfl
  rw [List.getElem?_map] at h1
  obtain ⟨g, hg, e⟩ := Option.map_eq_some_iff.1 h1
  exact ⟨g, hg, e⟩

/-- The j-th group as both hold it. -/
structure TurnAt (W : World) (bM j p u c u' c' ln : Nat) (gr : Int) (lt : Nat → Nat) : Prop where
  x3 : W.cell? ⟨bM, j * 5 + 3, none⟩ = some (sliceOf u' ln c')
  x4 : W.cell? ⟨bM, j * 5 + 4, none⟩ = some (.int .i64 gr)
  p0 : W.cell? ⟨p, 0, none⟩ = some (sliceOf u ln c)
  p1 : W.cell? ⟨p, 1, none⟩ = some (.int .i64 gr)
  p2 : W.cell? ⟨p, 2, none⟩ = some (.slice none 0 0)
  lk : ∀ t, t < ln → W.cell? ⟨u, t, none⟩ = some (ptrTo (lt t)) ∧ W.cell? ⟨u', t, none⟩ = some (ptrTo (lt t))

theorem TurnAt.drewN {W : World} {bM j p u c u' c' ln : Nat} {gr : Int} {lt : Nat → Nat} (T : TurnAt W bM j p u c u' c' ln gr lt) (q : Nat) : TurnAt (W.drewN q) bM j p u c u' c' ln gr lt :=
  ⟨T.x3, T.x4, T.p0, T.p1, T.p2, T.lk⟩

theorem EInv.turn {w W : World} {B N : Nat} {V : Int → Value} {rh : Int → Nat} {hs : List Int} {Mb : List BG} {Mm : List MG} {bM : Nat} {ah : Option Addr} {cM cH : Nat} (E : EInv w W B N V rh hs Mb Mm (some ⟨bM, 0, none⟩) ah cM cH) {j : Nat} {x : MG} (hx : Mm[j]? = some x) :
    ∃ p u c u' c' ln gr lt, ln ≤ 100000 ∧ TurnAt W bM j p u c u' c' ln gr lt ∧ (∀ h, (x.h == h) = true → h ∈ hs → W.cell? ⟨rh h, cnt Mb j h, none⟩ = some (ptrTo p) ∧ cnt Mb (j + 1) h = cnt Mb j h + 1 ∧ cnt Mb j h < (fil Mb h).length) := by
  obtain ⟨g, hg, e⟩ := same_at E.same hx
  have hgM := List.mem_of_getElem? hg
  have hxM := List.mem_of_getElem? hx
  obtain ⟨e1, e2, e3, e4, e5⟩ := key_eq e
  obtain ⟨b', eb, _, _, _, _, y3, y4, _⟩ := E.mi.cells hx
  cases eb
  have hA := E.bi.grp g hgM
  obtain ⟨q0, q1, q2⟩ := hA.cells
  refine ⟨g.p, g.u, g.c, x.u, x.c, g.ls.length, g.gr, fun t => g.ls.getD t 0, hA.len, ⟨by rw [e5]; exact y3, by rw [e4]; exact y4, q0, q1, q2, fun t ht => ⟨hA.lockCell t ht, ?_⟩⟩, fun h hh hm => ?_⟩
  · have ho := E.mi.grp x hxM
    rw [← e5] at ho
    rw [ho.cellAt t (by simpa using ht)]
    simp [List.getD, ht]
  · have hh' : (g.h == h) = true := by rw [e1]; exact hh
    obtain ⟨k1, k2⟩ := cnt_eq hg hh'
    have hlt : cnt Mb j h < (fil Mb h).length := (List.getElem?_eq_some_iff.1 k2).1
    refine ⟨?_, k1, hlt⟩
    obtain ⟨cap, hv, ho⟩ := E.bi.row h hm
    rw [hv] at ho
    rw [ho.cellAt _ (by simpa using hlt)]
    simp [k2]

theorem EInv.skip {w W : World} {B N : Nat} {V : Int → Value} {rh : Int → Nat} {hs : List Int} {Mb : List BG} {Mm : List MG} {am ah : Option Addr} {cM cH : Nat} (E : EInv w W B N V rh hs Mb Mm am ah cM cH) {j : Nat} {x : MG} (hx : Mm[j]? = some x) {h : Int} (hh : (x.h == h) = false) : cnt Mb (j + 1) h = cnt Mb j h := by
  obtain ⟨g, hg, e⟩ := same_at E.same hx
  exact cnt_ne hg (by rw [(key_eq e).1]; exact hh)

theorem EInv.len {w W : World} {B N : Nat} {V : Int → Value} {rh : Int → Nat} {hs : List Int} {Mb : List BG} {Mm : List MG} {am ah : Option Addr} {cM cH : Nat} (E : EInv w W B N V rh hs Mb Mm am ah cM cH) : Mb.length = Mm.length := by
  have := congrArg List.length E.same
  simpa using this
end Go.Proofs.Ybulkdgpw
