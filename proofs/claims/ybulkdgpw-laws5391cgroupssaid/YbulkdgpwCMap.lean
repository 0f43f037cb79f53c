import Derived.Test.YbulkdgpwRows
import Derived.WalkKit
import Derived.ProofKit
import Derived.OpenShut
import Derived.WalkLawsBesides
import Derived.WalkSpells
import Derived.Maps.OwnSet
import Derived.Maps.OwnOps
namespace Go.Proofs.Ybulkdgpw
open Go.ChangeShapes Go.WideShapes Go.ChangeAt Go.RowKit Go.Maps

/-- A pointer to the head of block g. -/
abbrev ptrTo (g : Nat) : Value := .pointer (some ⟨g, 0, none⟩)

theorem keyed59 : Keyed Yba.prog 59 := int_keyed Yba.underlying59
theorem zero77 (w : World) : (zeroValue 77).run Yba.prog w = .ok (.slice none 0 0) w := by kernel_rfl

/-- An element reads as itself. -/
def heldR (v : Value) : Option (DataW Value × List MemPlace) := some (.held v, [])

abbrev kl (h : Int) : Lit := .int .u16 h
abbrev okH (h : Int) : Prop := 0 ≤ h ∧ h ≤ 65535

theorem key59 {h : Int} (hh : okH h) : keyOf Yba.prog 59 (.int .u16 h) = some (kl h) := keyOf_int_mk Yba.underlying59 (WalkArith.wf_u16 (by omega))
theorem isKeyLit (h : Int) : WideAt.IsKeyLit (kl h) := by simp [WideAt.IsKeyLit]

/-- THE MAP: block X holds at each key h the value V h; its keys are the list hs; at most N stores have been made. -/
structure MapIs (w : World) (X N : Nat) (V : Int → Value) (hs : List Int) : Prop where
  ex : ∃ D, w.ownsMap Yba.prog 59 heldR X N D ∧ (∀ h, okH h → D.atKey (kl h) (.held (.slice none 0 0)) = .held (V h)) ∧ (∀ h, okH h → Maps.has D (kl h) = decide (h ∈ hs)) ∧ Maps.size D = hs.length

theorem MapIs.made (w : World) : MapIs (w.alloc (.map #[] 0)) w.heap.size 0 (fun _ => .slice none 0 0) [] :=
  ⟨⟨.map [], World.ownsMap_made w Yba.prog 59 heldR, fun _ _ => rfl, fun _ _ => rfl, rfl⟩⟩

theorem MapIs.block {w : World} {X N : Nat} {V : Int → Value} {hs : List Int} (h : MapIs w X N V hs) : ∃ es c, w.heap[X]? = some (.map es c) := by
  obtain ⟨D, ⟨es, c, hb, _⟩, _⟩ := h.ex
  exact ⟨es, c, hb⟩

theorem MapIs.of_block {w w' : World} {X N : Nat} {V : Int → Value} {hs : List Int} (h : MapIs w X N V hs) (hb : w'.heap[X]? = w.heap[X]?) : MapIs w' X N V hs := by
  obtain ⟨D, ⟨es, c, hx, F, hn, hD⟩, r⟩ := h.ex
  exact ⟨⟨D, ⟨es, c, hb.trans hx, F, hn, hD⟩, r⟩⟩

theorem MapIs.look {w : World} {X N : Nat} {V : Int → Value} {hs : List Int} (h : MapIs w X N V hs) {k : Int} (hk : okH k) : (Instr.lookup 57 (.map (some X)) (.int .u16 k) false).run Yba.prog w = .ok (V k) w := by
  obtain ⟨D, ho, h1, _, _⟩ := h.ex
  obtain ⟨v, ps, hr, hv⟩ := ho.lookup keyed59 Yba.underlying57 (zero77 w) (zd := .held (.slice none 0 0)) (zp := []) rfl (key59 hk)
  rw [h1 k hk] at hv
  have hv' : v = V k := (show v = V k ∧ ps = [] by simpa [heldR] using hv).1
  rw [hr, hv']

theorem MapIs.look_ok {w : World} {X N : Nat} {V : Int → Value} {hs : List Int} (h : MapIs w X N V hs) {k : Int} (hk : okH k) : (Instr.lookup 57 (.map (some X)) (.int .u16 k) true).run Yba.prog w = .ok (.tuple #[V k, .bool (decide (k ∈ hs))]) w := by
  obtain ⟨D, ho, h1, h2, _⟩ := h.ex
  obtain ⟨v, ps, hr, hv⟩ := ho.look_ok keyed59 Yba.underlying57 (zero77 w) (zd := .held (.slice none 0 0)) (zp := []) rfl (key59 hk)
  rw [h1 k hk] at hv
  have hv' : v = V k := (show v = V k ∧ ps = [] by simpa [heldR] using hv).1
  rw [hr, hv', h2 k hk]

theorem MapIs.len {w : World} {X N : Nat} {V : Int → Value} {hs : List Int} (h : MapIs w X N V hs) (ty : TypeId) : (Builtin.len_ #[57] ty #[.map (some X)]).run Yba.prog w = .ok (.int .i64 hs.length) w := by
  obtain ⟨D, ho, _, _, h3⟩ := h.ex
  rw [ho.len Yba.underlying57 ty, h3]

/-- The keys behind a store at k. -/
def addTo (hs : List Int) (k : Int) : List Int := if k ∈ hs then hs else hs ++ [k]
def upd (V : Int → Value) (k : Int) (v : Value) : Int → Value := fun h => if h = k then v else V h

theorem MapIs.put {w : World} {X N : Nat} {V : Int → Value} {hs : List Int} (h : MapIs w X N V hs) (hN : N ≤ 1000000) {k : Int} (hk : okH k) (v : Value) :
    ∃ w', (Instr.mapUpdate 57 (.map (some X)) (.int .u16 k) v).run Yba.prog w = .ok () w' ∧ MapIs w' X (N + 1) (upd V k v) (addTo hs k) ∧ w.grownBy w' (some X) := by
  obtain ⟨D, ho, h1, h2, h3⟩ := h.ex
  obtain ⟨w', hr, ho', hg⟩ := ho.update keyed59 Yba.underlying57 (by unfold maxLen; omega) (key59 hk) (val := v) (d := .held v) (ps := []) rfl
  refine ⟨w', hr, ⟨⟨D.put (kl k) (.held v), ho', fun h hh => ?_, fun h hh => ?_, ?_⟩⟩, hg⟩
  · by_cases e : h = k
    · subst e; rw [atKey_put_same ho.isMap (isKeyLit _)]; simp [upd]
    · rw [atKey_put_other (by simpa using e), h1 h hh]; simp [upd, e]
  · by_cases e : h = k
    · subst e; rw [has_put_same ho.isMap (isKeyLit _)]
      unfold addTo
      split <;> simp_all
    · rw [has_put_other (by simpa using e), h2 h hh]
      unfold addTo
      split <;> simp [e]
  · rw [size_put (ho.tidy keyed59), h2 k hk, h3]
    unfold addTo
    by_cases e : k ∈ hs <;> simp [e]
end Go.Proofs.Ybulkdgpw
