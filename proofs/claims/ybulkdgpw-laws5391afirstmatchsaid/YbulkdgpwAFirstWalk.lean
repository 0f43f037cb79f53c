import Derived.Test.YbulkdgpwANoParts
import Derived.Laws.CopyOwn
namespace Go.Proofs.Ybulkdgpw
open Go.ChangeShapes Go.WideShapes Go.ChangeAt Go.RowKit
set_option linter.unusedVariables false
attribute [local go_sem] eql41 neq41

set_option maxRecDepth 1000000 in
theorem first_long (a1 a2 : Option Addr) (l1 c1 l2 c2 : Nat) (w : World) (h : 1024 < l1 ∨ 1024 < l2) :
    Calls Yba.prog 3 #[.slice a1 l1 c1, .slice a2 l2 c2] w fun e w' => e = .returned (.bool true) ∧ Below w.heap.size w w' := by
  by_cases h1 : (1024 : Int) < (l1 : Int)
  · go_enter Yba.func3, Yba.ntmps3
    go_wp2_with fail
    go_ret
    exact ⟨rfl, Below.refl _ _⟩
  · have h2 : (1024 : Int) < (l2 : Int) := by omega
    go_enter Yba.func3, Yba.ntmps3
    go_wp2_with fail
    go_ret
    exact ⟨rfl, Below.refl _ _⟩

theorem sz41 : (Yba.prog.info? 41).map (fun i => i.size) = some 1 := by kernel_rfl

theorem keep_cells {w : World} {g n : Nat} {cur : List Value} {gs : List Nat} (hb : w.heap[g]? = some (.cells (splice cur 0 (gs.map ptrOf)).toArray 41 (0, 0))) (hn : gs.length = n) : ∀ i, i < n → w.cell? ⟨g, i, none⟩ = some (ptrOf (gs.getD i 0)) := by
  intro i hi
  have hi' : i < gs.length := by omega
  simp [World.cell?, hb, splice, List.getElem?_append_left, hi', List.getD]

theorem copy_src {w : World} {T R capR : Nat} {gs : List Nat} {cols : List Int} (h : Tab w T R capR gs cols) : ∀ j v, (gs.map ptrOf)[j]? = some v → w.cell? ((⟨R, 0, none⟩ : Addr).add j) = some v := by
  intro j v hj
  have hl : j < gs.length := by simpa using (List.getElem?_eq_some_iff.1 hj).1
  rw [add_plain, Nat.zero_add, h.row j (by have := h.len; omega)]
  simp [List.getD, hl] at hj ⊢
  exact hj
theorem ptrs_one (gs : List Nat) : ∀ v ∈ gs.map ptrOf, v.oneCell' = true := by
  intro v hv
  obtain ⟨g, _, rfl⟩ := List.mem_map.1 hv
  rfl

/-- 'copy(keep, t.indexes)'. -/
theorem copy_run {w1 w2 : World} {T R capR n : Nat} {gs : List Nat} {cols : List Int} (hn : cols.length = n) (h : Tab w2 T R capR gs cols) (hB : w2.heap[w1.heap.size]? = some (.cells (madeCells #[.pointer none] (n * 1)) 41 (0, 0))) (hb : Below w1.heap.size w1 w2) :
    ∃ w3, (Builtin.copy_ #[30, 30] 3 #[.slice (some ⟨w1.heap.size, 0, none⟩) n n, .slice (some ⟨R, 0, none⟩) n capR]).run Yba.prog w2 = .ok (.int .i64 n) w3 ∧ Hid (∀ i, i < n → w3.cell? ⟨w1.heap.size, i, none⟩ = some (ptrOf (gs.getD i 0))) ∧ w1.heap.size < w3.heap.size ∧ Below w1.heap.size w1 w3 := by
  have hl : gs.length = n := by rw [h.len, hn]
  have hr := run_copy_row (P := Yba.prog) w2 30 30 3 41 w1.heap.size 0 n n ⟨R, 0, none⟩ n capR (madeCells #[.pointer none] (n * 1)) 41 (gs.map ptrOf) Yba.underlying30 sz41 hB (by simp [hl]) (copy_src h) (by simp [hl, size_madeCells]) (ptrs_one gs)
  refine ⟨_, by simpa [hl, goInt] using hr, ?_, ?_, below_setRow hb (Nat.le_refl _) _⟩
  · refine keep_cells (cur := (madeCells #[.pointer none] (n * 1)).toList) ?_ hl
    rw [setRow_heap w2 w1.heap.size _ _ 41 _ hB]
    simp [splice, hl]
  · have := (Array.getElem?_eq_some_iff.1 hB).1
    simpa [World.setRow] using this

/-- What the law's first loop has found after k rounds. -/
def Found (cs cols : List Int) (k W : Nat) (f : Bool) : Prop := (f = true ∧ First cs cols W) ∨ (f = false ∧ W = 0 ∧ ∀ j, j < k → hasB cs (cols.getD j 0) = false)

set_option maxHeartbeats 6400000 in
set_option maxRecDepth 1000000 in
theorem first_main (a1 a2 : Option Addr) (c1 c2 : Nat) (fs cs cols : List Int) (w : World) (h1 : IntsAt w a1 fs.length fs) (h2 : IntsAt w a2 cs.length cs) (hl1 : fs.length ≤ 1024) (hl2 : cs.length ≤ 1024)
    (hcols : (fs.length = 0 ∧ cols = [0]) ∨ (0 < fs.length ∧ cols = fs)) :
    Calls Yba.prog 3 #[.slice a1 fs.length c1, .slice a2 cs.length c2] w fun e w' => e = .returned (.bool true) ∧ Below w.heap.size w w' := by
  have k1 : ¬ (1024 : Int) < (fs.length : Int) := by omega
  have k2 : ¬ (1024 : Int) < (cs.length : Int) := by omega
  have hclen : 0 < cols.length ∧ cols.length ≤ 1024 := by
    rcases hcols with ⟨_, rfl⟩ | ⟨hp, rfl⟩
    · simp
    · exact ⟨hp, hl1⟩
  obtain ⟨hcl0, hcl1⟩ := hclen
  have HV : Hid (∀ k, k < cols.length → (k < fs.length ∧ cols.getD k 0 = fs.getD k 0) ∨ (¬ k < fs.length ∧ cols.getD k 0 = 0)) := by
    intro k hk
    rcases hcols with ⟨h0, rfl⟩ | ⟨h, rfl⟩
    · refine Or.inr ⟨by omega, ?_⟩
      obtain rfl : k = 0 := by simp at hk; exact hk
      rfl
    · exact Or.inl ⟨hk, rfl⟩
  have HCo : Hid ((fs.length = 0 ∧ cols = [0]) ∨ (0 < fs.length ∧ cols = fs)) := hcols
  clear hcols
  go_enter Yba.func3, Yba.ntmps3
  go_wp2_with fail
  refine (build6 a1 a2 fs.length c1 cs.length c2 fs cs cols w h1 h2 hl1 hl2 HCo.out).mono ?_
  rintro e w1 ⟨R, capR, b, gs, rfl, hTab, hConds, hbel1⟩
  have hix := hTab.ixs
  go_wp2_with fail
  go_loop [8, 9, 10] (fun wt fd i => ∃ (k W : Nat) (f : Bool), k ≤ cols.length ∧ i = .int .i64 k ∧ fd = .bool f ∧ wt = .int .i64 W ∧ Hid (Found cs cols k W f)) (fun _ _ i => cols.length - (intOf i).toNat)
  case atStart => exact ⟨0, 0, false, Nat.zero_le _, rfl, rfl, rfl, Or.inr ⟨rfl, rfl, fun j hj => by omega⟩⟩
  case round =>
    obtain ⟨k, W, f, hk, rfl, rfl, rfl, HF⟩ := hrel
    by_cases hC : f = false ∧ k < cols.length
    · obtain ⟨rfl, hlt⟩ := hC
      have HN : Hid (W = 0 ∧ ∀ j, j < k → hasB cs (cols.getD j 0) = false) := by
        rcases HF.out with ⟨h, _⟩ | ⟨_, h⟩
        · cases h
        · exact h
      obtain rfl : W = 0 := HN.out.1
      have hrow := hTab.row k hlt
      obtain ⟨_, kb, _, hk4, hkb⟩ := (hTab.idx k hlt).cells
      obtain ⟨c, hc⟩ : ∃ c, c = cols.getD k 0 := ⟨_, rfl⟩
      rw [← hc] at hkb
      have HC : Hid (c = cols.getD k 0) := hc
      clear hc HF
      generalize gs.getD k 0 = G at hrow hk4
      have hki : (k : Int) < (cols.length : Int) := by omega
      go_wp2_with fail
      go_loop [8, 9, 12] (fun wt fd j => ∃ m : Nat, m ≤ cs.length ∧ j = .int .i64 m ∧ fd = .bool false ∧ wt = .int .i64 0 ∧ Hid (∀ j, j < m → cs.getD j 0 ≠ c)) (fun _ _ j => cs.length - (intOf j).toNat)
      case atStart => exact ⟨0, Nat.zero_le _, rfl, rfl, rfl, fun j hj => by omega⟩
      case round =>
        obtain ⟨m, hm, rfl, rfl, rfl, HM⟩ := hrel
        by_cases hml : m < cs.length
        · obtain ⟨bb, off, rfl, hbl, hcell⟩ := h2.2.1 (by omega)
          have hcx := (hbel1.cell (p := ⟨bb, off + m, none⟩) hbl).trans (hcell m hml)
          have hbd := h2.2.2 m
          obtain ⟨y, hy⟩ : ∃ y, y = cs.getD m 0 := ⟨_, rfl⟩
          rw [← hy] at hcx hbd
          have HY : Hid (y = cs.getD m 0) := hy
          clear hy hcell
          obtain ⟨hy0, hy1⟩ := hbd
          by_cases hyc : (y == c) = true
          · go_wp2_with fail
            go_round
            case rel =>
              have hyc' : y = c := by simpa using hyc
              have hh : hasB cs (cols.getD k 0) = true := by
                rw [← HC.out]
                exact contains_hit cs c m hml (HY.out.symm.trans hyc')
              exact ⟨k + 1, k, true, by omega, by go_num, rfl, rfl, Or.inl ⟨rfl, hlt, hh, HN.out.2⟩⟩
            case measure => simp [intOf]; omega
          · have hyf : (y == c) = false := by simpa using hyc
            clear hyc
            go_wp2_with fail
            go_round
            case rel =>
              refine ⟨m + 1, by omega, by go_num, rfl, rfl, fun j hj => ?_⟩
              by_cases e : j = m
              · subst e; rw [← HY.out]; simpa using hyf
              · exact HM.out j (by omega)
            case measure => simp [intOf]; omega
        · obtain rfl : m = cs.length := by omega
          go_wp2_with fail
          go_round
          case rel =>
            refine ⟨k + 1, 0, false, by omega, by go_num, rfl, rfl, Or.inr ⟨rfl, rfl, fun j hj => ?_⟩⟩
            by_cases e : j = k
            · subst e
              rw [← HC.out]
              exact contains_miss cs c HM.out
            · exact HN.out.2 j (by omega)
          case measure => simp [intOf]; omega
    · have HW : Hid (Want cs cols W) := by
        rcases HF.out with ⟨_, h⟩ | ⟨h, rfl, h'⟩
        · exact Or.inl h
        · have : k = cols.length := by
            rcases Nat.lt_or_ge k cols.length with hl | hl
            · exact absurd ⟨h, hl⟩ hC
            · omega
          subst this
          exact Or.inr ⟨h', rfl⟩
      have hWl : W < cols.length := by
        rcases HW.out with h | ⟨_, rfl⟩
        · exact h.1
        · exact hcl0
      have hWi : (W : Int) < (cols.length : Int) := by omega
      obtain ⟨i0, hi0⟩ : ∃ i0, Inf 41 i0 (.pointer none) 1 8 := info_parts info41
      have hglen := hTab.len
      have HGL : Hid (gs.length = cols.length) := hglen
      clear hglen
      have hTabX : Hid (Tab w1 w.heap.size R capR gs cols) := hTab
      have hConX : Hid (Conds w1 b cs) := hConds
      clear hTab hConds HF
      by_cases hkn : k < cols.length
      · have hft : f = true := by
          cases f
          · exact absurd ⟨rfl, hkn⟩ hC
          · rfl
        subst hft
        clear hC
        go_wp2_with (first | (at_make; go_must (refine wpList_make_full _ rfl _ _ 30 rfl w1.heap.size 41 i0 (.pointer none) 1 Yba.underlying30 hi0.out.1 hi0.out.2.1 hi0.out.2.2.1 .i64 .i64 _ _ cols.length rfl rfl rfl rfl (by rw [hi0.out.2.2.2]; omega) (by unfold maxLen; omega) (Nat.le_refl _) ?_); intro w2 hown2 hg2; have HB2 : Hid (w2.heap[w1.heap.size]? = some (.cells (madeCells #[.pointer none] (cols.length * 1)) 41 (0, 0))) := made_block hown2; have hbel2 : Below w1.heap.size w1 w2 := ⟨hg2.os, hg2.tape, hg2.output, hg2.size, fun k hk => hg2.block k hk (by simp)⟩; clear hown2 hg2; have hix2 := (hTabX.out.below hbel2).ixs; obtain ⟨w3, hcp, HKp, hKl, hbel3⟩ := copy_run rfl (hTabX.out.below hbel2) HB2.out hbel2))
        clear HB2 hbel2 hix2 hcp
        refine (scanned7 cs cols gs b cs.length w.heap.size R capR w3 hl2 (by omega) hcl0 (hConX.out.below hbel3) (hTabX.out.below hbel3)).mono ?_
        rintro e w4 ⟨iW, rfl, hw, hbel4⟩
        obtain rfl : W = iW := HW.out.one hw
        have hTab4 : Hid (Tab w4 w.heap.size R capR gs cols) := (hTabX.out.below hbel3).below hbel4
        have hCon4 : Hid (Conds w4 b cs) := (hConX.out.below hbel3).below hbel4
        have HKp4 : Hid (∀ i, i < cols.length → w4.cell? ⟨w1.heap.size, i, none⟩ = some (ptrOf (gs.getD i 0))) := fun i hi => (hbel4.cell (p := ⟨w1.heap.size, i, none⟩) hKl).trans (HKp.out i hi)
        have hb14 : Below w1.heap.size w1 w4 := hbel3.trans (hbel4.mono hbel3.size)
        have hbw4 : Below w.heap.size w w4 := hbel1.trans (hb14.mono hbel1.size)
        have hix4 := hTab4.out.ixs
        have hkW := HKp4.out W hWl
        clear hw hbel4 hbel3 HKp hTabX hConX
        generalize gs.getD W 0 = GW at hkW ⊢
        go_wp2_with fail
        go_loopw [15] (fun i wq => ∃ j : Nat, j ≤ cols.length ∧ i = .int .i64 j ∧ ∃ q, wq = w4.drewN q) (fun i _ => cols.length - (intOf i).toNat)
        case atStart => exact ⟨0, Nat.zero_le _, rfl, 0, rfl⟩
        case round =>
          obtain ⟨j, hj, rfl, q, rfl⟩ := hrel
          clear hkW
          by_cases hjl : j < cols.length
          · have hrow := hTab4.out.row j hjl
            have hkp := HKp4.out j hjl
            obtain ⟨_, kb, _, hk4, hkb⟩ := (hTab4.out.idx j hjl).cells
            have hji : (0 : Int) ≤ (j : Int) := by omega
            have hjl' : (j : Int) < (cols.length : Int) := by omega
            have hval := HV.out j hjl
            obtain ⟨c, hc⟩ : ∃ c, c = cols.getD j 0 := ⟨_, rfl⟩
            rw [← hc] at hkb hval
            clear hc
            generalize gs.getD j 0 = G at hrow hkp hk4
            go_wp2_with fail
            go_quiet (fail)
            rcases hval with ⟨hjf, hcv⟩ | ⟨hjf, rfl⟩
            · obtain ⟨bb, off, rfl, hbl, hcell⟩ := h1.2.1 (by omega)
              have hcx := (hbw4.cell (p := ⟨bb, off + j, none⟩) hbl).trans (hcell j hjf)
              have hbd := h1.2.2 j
              rw [← hcv] at hcx hbd
              clear hcv hcell
              obtain ⟨hy0, hy1⟩ := hbd
              have hjf' : (j : Int) < (fs.length : Int) := by omega
              go_wp2_with fail
              go_roundw
              case rel => exact ⟨j + 1, by omega, by go_num, _, rfl⟩
              case measure => simp [intOf]; omega
            · have hjf' : ¬ (j : Int) < (fs.length : Int) := by omega
              go_wp2_with fail
              go_roundw
              case rel => exact ⟨j + 1, by omega, by go_num, _, rfl⟩
              case measure => simp [intOf]; omega
          · go_wp2_with fail
            go_loopw [17] (fun i wq => ∃ m : Nat, m ≤ cs.length ∧ i = .int .i64 m ∧ ∃ q, wq = w4.drewN q) (fun i _ => cs.length - (intOf i).toNat)
            case atStart => exact ⟨0, Nat.zero_le _, rfl, q, rfl⟩
            case round =>
              obtain ⟨m, hm, rfl, q2, rfl⟩ := hrel
              by_cases hml : m < cs.length
              · obtain ⟨bb, off, rfl, hbl, hcell⟩ := h2.2.1 (by omega)
                have hcx := (hbw4.cell (p := ⟨bb, off + m, none⟩) hbl).trans (hcell m hml)
                have hcd := (hCon4.out.2 m hml).2.2.2.2.1
                have hbd := h2.2.2 m
                generalize cs.getD m 0 = y at hcx hcd hbd
                clear hcell
                obtain ⟨hy0, hy1⟩ := hbd
                have hm0 : (0 : Int) ≤ (m : Int) := by omega
                have hm1 : (m : Int) < (cs.length : Int) := by omega
                go_wp2_with fail
                go_quiet (fail)
                go_wp2_with fail
                go_roundw
                case rel => exact ⟨m + 1, by omega, by go_num, _, rfl⟩
                case measure => simp [intOf]; omega
              · go_wp2_with fail
                go_ret
                exact ⟨rfl, hbw4.trans ⟨rfl, rfl, rfl, Nat.le_refl _, fun _ _ => rfl⟩⟩
      · have hkn' : ¬ (k : Int) < (cols.length : Int) := by omega
        clear hC
        go_wp2_with (first | (at_make; go_must (refine wpList_make_full _ rfl _ _ 30 rfl w1.heap.size 41 i0 (.pointer none) 1 Yba.underlying30 hi0.out.1 hi0.out.2.1 hi0.out.2.2.1 .i64 .i64 _ _ cols.length rfl rfl rfl rfl (by rw [hi0.out.2.2.2]; omega) (by unfold maxLen; omega) (Nat.le_refl _) ?_); intro w2 hown2 hg2; have HB2 : Hid (w2.heap[w1.heap.size]? = some (.cells (madeCells #[.pointer none] (cols.length * 1)) 41 (0, 0))) := made_block hown2; have hbel2 : Below w1.heap.size w1 w2 := ⟨hg2.os, hg2.tape, hg2.output, hg2.size, fun k hk => hg2.block k hk (by simp)⟩; clear hown2 hg2; have hix2 := (hTabX.out.below hbel2).ixs; obtain ⟨w3, hcp, HKp, hKl, hbel3⟩ := copy_run rfl (hTabX.out.below hbel2) HB2.out hbel2))
        clear HB2 hbel2 hix2 hcp
        refine (scanned7 cs cols gs b cs.length w.heap.size R capR w3 hl2 (by omega) hcl0 (hConX.out.below hbel3) (hTabX.out.below hbel3)).mono ?_
        rintro e w4 ⟨iW, rfl, hw, hbel4⟩
        obtain rfl : W = iW := HW.out.one hw
        have hTab4 : Hid (Tab w4 w.heap.size R capR gs cols) := (hTabX.out.below hbel3).below hbel4
        have hCon4 : Hid (Conds w4 b cs) := (hConX.out.below hbel3).below hbel4
        have HKp4 : Hid (∀ i, i < cols.length → w4.cell? ⟨w1.heap.size, i, none⟩ = some (ptrOf (gs.getD i 0))) := fun i hi => (hbel4.cell (p := ⟨w1.heap.size, i, none⟩) hKl).trans (HKp.out i hi)
        have hb14 : Below w1.heap.size w1 w4 := hbel3.trans (hbel4.mono hbel3.size)
        have hbw4 : Below w.heap.size w w4 := hbel1.trans (hb14.mono hbel1.size)
        have hix4 := hTab4.out.ixs
        have hkW := HKp4.out W hWl
        clear hw hbel4 hbel3 HKp hTabX hConX
        generalize gs.getD W 0 = GW at hkW ⊢
        go_wp2_with fail
        go_loopw [15] (fun i wq => ∃ j : Nat, j ≤ cols.length ∧ i = .int .i64 j ∧ ∃ q, wq = w4.drewN q) (fun i _ => cols.length - (intOf i).toNat)
        case atStart => exact ⟨0, Nat.zero_le _, rfl, 0, rfl⟩
        case round =>
          obtain ⟨j, hj, rfl, q, rfl⟩ := hrel
          clear hkW
          by_cases hjl : j < cols.length
          · have hrow := hTab4.out.row j hjl
            have hkp := HKp4.out j hjl
            obtain ⟨_, kb, _, hk4, hkb⟩ := (hTab4.out.idx j hjl).cells
            have hji : (0 : Int) ≤ (j : Int) := by omega
            have hjl' : (j : Int) < (cols.length : Int) := by omega
            have hval := HV.out j hjl
            obtain ⟨c, hc⟩ : ∃ c, c = cols.getD j 0 := ⟨_, rfl⟩
            rw [← hc] at hkb hval
            clear hc
            generalize gs.getD j 0 = G at hrow hkp hk4
            go_wp2_with fail
            go_quiet (fail)
            rcases hval with ⟨hjf, hcv⟩ | ⟨hjf, rfl⟩
            · obtain ⟨bb, off, rfl, hbl, hcell⟩ := h1.2.1 (by omega)
              have hcx := (hbw4.cell (p := ⟨bb, off + j, none⟩) hbl).trans (hcell j hjf)
              have hbd := h1.2.2 j
              rw [← hcv] at hcx hbd
              clear hcv hcell
              obtain ⟨hy0, hy1⟩ := hbd
              have hjf' : (j : Int) < (fs.length : Int) := by omega
              go_wp2_with fail
              go_roundw
              case rel => exact ⟨j + 1, by omega, by go_num, _, rfl⟩
              case measure => simp [intOf]; omega
            · have hjf' : ¬ (j : Int) < (fs.length : Int) := by omega
              go_wp2_with fail
              go_roundw
              case rel => exact ⟨j + 1, by omega, by go_num, _, rfl⟩
              case measure => simp [intOf]; omega
          · go_wp2_with fail
            go_loopw [17] (fun i wq => ∃ m : Nat, m ≤ cs.length ∧ i = .int .i64 m ∧ ∃ q, wq = w4.drewN q) (fun i _ => cs.length - (intOf i).toNat)
            case atStart => exact ⟨0, Nat.zero_le _, rfl, q, rfl⟩
            case round =>
              obtain ⟨m, hm, rfl, q2, rfl⟩ := hrel
              by_cases hml : m < cs.length
              · obtain ⟨bb, off, rfl, hbl, hcell⟩ := h2.2.1 (by omega)
                have hcx := (hbw4.cell (p := ⟨bb, off + m, none⟩) hbl).trans (hcell m hml)
                have hcd := (hCon4.out.2 m hml).2.2.2.2.1
                have hbd := h2.2.2 m
                generalize cs.getD m 0 = y at hcx hcd hbd
                clear hcell
                obtain ⟨hy0, hy1⟩ := hbd
                have hm0 : (0 : Int) ≤ (m : Int) := by omega
                have hm1 : (m : Int) < (cs.length : Int) := by omega
                go_wp2_with fail
                go_quiet (fail)
                go_wp2_with fail
                go_roundw
                case rel => exact ⟨m + 1, by omega, by go_num, _, rfl⟩
                case measure => simp [intOf]; omega
              · go_wp2_with fail
                go_ret
                exact ⟨rfl, hbw4.trans ⟨rfl, rfl, rfl, Nat.le_refl _, fun _ _ => rfl⟩⟩
end Go.Proofs.Ybulkdgpw
