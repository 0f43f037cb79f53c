import Derived.Test.YbulkdgpwCInv
namespace Go.Proofs.Ybulkdgpw
open Go.ChangeShapes Go.WideShapes Go.ChangeAt Go.RowKit Go.Maps

def mt (m k : Int) (g : BG) : Bool := g.m == m && g.k == k

/-- r is the first place at which the list has a group of mode m and kind k, or -1. -/
def IsIx (F : List BG) (m k r : Int) : Prop := (r = -1 ∧ ∀ g ∈ F, mt m k g = false) ∨ ∃ i : Nat, r = i ∧ (∃ g, F[i]? = some g ∧ mt m k g = true) ∧ ∀ j g, j < i → F[j]? = some g → mt m k g = false

theorem IsIx.found {A Bs : List BG} {g : BG} {m k r : Int} (h : IsIx (A ++ g :: Bs) m k r) (hA : ∀ x ∈ A, mt m k x = false) (hg : mt m k g = true) : r = (A.length : Int) := by
  have hat : (A ++ g :: Bs)[A.length]? = some g := by simp
  rcases h with ⟨_, h⟩ | ⟨i, rfl, ⟨g', hi, hm⟩, hj⟩
  · have := h g (by simp)
    rw [hg] at this; cases this
  · rcases Nat.lt_trichotomy i A.length with hl | hl | hl
    · rw [List.getElem?_append_left hl] at hi
      have := hA g' (List.mem_of_getElem? hi)
      rw [hm] at this; cases this
    · rw [hl]
    · have := hj A.length g hl hat
      rw [hg] at this; cases this

theorem IsIx.none {F : List BG} {m k r : Int} (h : IsIx F m k r) (hF : ∀ x ∈ F, mt m k x = false) : r = -1 := by
  rcases h with ⟨h, _⟩ | ⟨i, rfl, ⟨g', hi, hm⟩, _⟩
  · exact h
  · have := hF g' (List.mem_of_getElem? hi)
    rw [hm] at this; cases this

set_option maxHeartbeats 1600000 in
theorem ixf14 (F : List BG) (av : Option Addr) (n cap Bx L B : Nat) (m k : Int) (w : World) (hlen : Hid (F.length = n)) (hn : n ≤ 100000) (hav : 0 < n → ∃ R, av = some ⟨R, 0, none⟩ ∧ ∀ (i : Nat) (g : BG), F[i]? = some g → w.cell? ⟨R, i, none⟩ = some (ptrTo g.p))
    (hF : ∀ g ∈ F, BAt w B g) (hB : w.cell? ⟨Bx, 0, none⟩ = some (ptrTo L)) (g7 : w.cell? ⟨L, 7, none⟩ = some (.int .u8 m)) (g8 : w.cell? ⟨L, 8, none⟩ = some (.int .u8 k)) :
    Calls Yba.prog 14 #[.slice av n cap, .func (.func 15) #[] #[ptrTo Bx]] w fun e w' => ∃ r : Int, e = .returned (.int .i64 r) ∧ IsIx F m k r ∧ ∃ q, w' = w.drewN q := by
  go_enter Yba.func14, Yba.ntmps14
  go_wp2_with fail
  go_loopw [8] (fun t wr => ∃ i : Nat, i ≤ n ∧ t = .int .i64 i ∧ Hid (∀ j g, j < i → F[j]? = some g → mt m k g = false) ∧ ∃ q, wr = w.drewN q) (fun t _ => n - (intOf t).toNat)
  case atStart => exact ⟨0, Nat.zero_le _, rfl, fun j g hj => by omega, 0, rfl⟩
  case round =>
    obtain ⟨i, hi, rfl, HN, q, rfl⟩ := hrel
    by_cases hlt : i < n
    · obtain ⟨R, rfl, hrow⟩ := hav (by omega)
      obtain ⟨g, hg⟩ : ∃ g, F[i]? = some g := ⟨F[i]'(by have := hlen.out; omega), by rw [List.getElem?_eq_getElem]⟩
      have hcell := hrow i g hg
      have hat := hF g (List.mem_of_getElem? hg)
      obtain ⟨l0, f0, f7, f8⟩ := hat.first
      obtain ⟨d0, _, _⟩ := hat.cells
      have hne := hat.ne
      have HG : Hid (F[i]? = some g) := hg
      clear hg hat hrow
      by_cases hmm : mt m k g = true
      · have HMM : Hid (mt m k g = true) := hmm
        have hmm' : (g.m == m && g.k == k) = true := hmm
        clear hmm
        go_wp2_with fail
        refine (clo15 g.p g.u g.ls.length g.c l0 L Bx g.m g.k m k _ hne (by simpa using d0) (by simpa using f0) (by simpa using f7) (by simpa using f8) (by simpa using hB) (by simpa using g7) (by simpa using g8)).mono ?_
        rintro e w1 ⟨rfl, q1, rfl⟩
        rw [hmm']
        clear d0 f0 f7 f8 hmm'
        go_wp2_with fail
        go_ret
        exact ⟨i, rfl, Or.inr ⟨i, rfl, ⟨g, HG.out, HMM.out⟩, HN.out⟩, _, rfl⟩
      · have hmf : (g.m == m && g.k == k) = false := by simpa [mt] using hmm
        have HMM : Hid (mt m k g = false) := by show mt m k g = false; simpa using hmm
        clear hmm
        go_wp2_with fail
        refine (clo15 g.p g.u g.ls.length g.c l0 L Bx g.m g.k m k _ hne (by simpa using d0) (by simpa using f0) (by simpa using f7) (by simpa using f8) (by simpa using hB) (by simpa using g7) (by simpa using g8)).mono ?_
        rintro e w1 ⟨rfl, q1, rfl⟩
        rw [hmf]
        clear d0 f0 f7 f8 hmf
        go_wp2_with fail
        go_roundw
        case rel =>
          refine ⟨i + 1, by omega, by go_num, fun j g' hj hg' => ?_, _, rfl⟩
          by_cases e : j = i
          · subst e
            rw [HG.out] at hg'
            cases hg'
            exact HMM.out
          · exact HN.out j g' (by omega) hg'
        case measure => simp [intOf]; omega
    · obtain rfl : i = n := by omega
      go_wp2_with fail
      go_ret
      refine ⟨-1, rfl, Or.inl ⟨rfl, fun g hg => ?_⟩, _, rfl⟩
      obtain ⟨j, hj, e⟩ := List.getElem_of_mem hg
      exact HN.out j g (by have := hlen.out; omega) (by rw [List.getElem?_eq_getElem hj, e])
end Go.Proofs.Ybulkdgpw
