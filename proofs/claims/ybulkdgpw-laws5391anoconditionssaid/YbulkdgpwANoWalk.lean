import Derived.Test.YbulkdgpwANoParts
namespace Go.Proofs.Ybulkdgpw
open Go.ChangeShapes Go.WideShapes Go.ChangeAt Go.RowKit
set_option linter.unusedVariables false
attribute [local go_sem] eql41 neq41

/-- A slice of bytes that came in. -/
def BytesAt (w : World) (a : Option Addr) (l : Nat) (g : Nat → Int) : Prop :=
  (0 < l → ∃ b off, a = some ⟨b, off, none⟩ ∧ b < w.heap.size ∧ ∀ j, j < l → w.cell? ⟨b, off + j, none⟩ = some (.int .u8 (g j))) ∧ ∀ j : Nat, 0 ≤ g j ∧ g j ≤ 255

theorem no_long (a1 a2 : Option Addr) (l1 c1 l2 c2 : Nat) (w : World) (h : 1024 < l1 ∨ 1024 < l2) :
    Calls Yba.prog 4 #[.slice a1 l1 c1, .slice a2 l2 c2] w fun e w' => e = .returned (.bool true) ∧ Below w.heap.size w w' := by
  by_cases h1 : (1024 : Int) < (l1 : Int)
  · go_enter Yba.func4, Yba.ntmps4
    go_wp2_with fail
    go_ret
    exact ⟨rfl, Below.refl _ _⟩
  · have h2 : (1024 : Int) < (l2 : Int) := by omega
    go_enter Yba.func4, Yba.ntmps4
    go_wp2_with fail
    go_ret
    exact ⟨rfl, Below.refl _ _⟩

set_option maxHeartbeats 3200000 in
theorem no_main (a1 a2 : Option Addr) (l1 c1 l2 c2 : Nat) (g1 g2 : Nat → Int) (w : World) (h1 : BytesAt w a1 l1 g1) (h2 : BytesAt w a2 l2 g2) (hl1 : l1 ≤ 1024) (hl2 : l2 ≤ 1024) :
    Calls Yba.prog 4 #[.slice a1 l1 c1, .slice a2 l2 c2] w fun e w' => e = .returned (.bool true) ∧ Below w.heap.size w w' := by
  obtain ⟨i4, hi4⟩ : ∃ i4, Inf 42 i4 (.int .i8 0) 1 1 := info_parts info42
  have k1 : ¬ (1024 : Int) < (l1 : Int) := by omega
  have k2 : ¬ (1024 : Int) < (l2 : Int) := by omega
  go_enter Yba.func4, Yba.ntmps4
  go_wp2_with (at_make; go_must (refine wpList_make_full _ rfl _ _ 22 rfl w.heap.size 42 i4 (.int .i8 0) 1 Yba.underlying22 hi4.out.1 hi4.out.2.1 hi4.out.2.2.1 .i64 .i64 _ _ l1 rfl rfl rfl rfl (by rw [hi4.out.2.2.2]; omega) (by unfold maxLen; omega) (Nat.le_refl _) ?_); intro w1 hown1 hg1)
  have HB1 : Hid (w1.heap[w.heap.size]? = some (.cells (madeCells #[.int .i8 0] (l1 * 1)) 42 (0, 0))) := made_block hown1
  have hbel1 : Below w.heap.size w w1 := ⟨hg1.os, hg1.tape, hg1.output, hg1.size, fun k hk => hg1.block k hk (by simp)⟩
  clear hown1 hg1
  go_loopw [6] (fun t wq => ∃ (j : Nat) (cur : Array Value), j ≤ l1 ∧ t = .int .i64 j ∧ Hid (wq.heap[w.heap.size]? = some (.cells cur 42 (0, 0))) ∧ Hid (IntsK cur l1 j (fun i => g1 i % 100)) ∧ Below w.heap.size w wq) (fun t _ => l1 - (intOf t).toNat)
  case atStart => exact ⟨0, _, Nat.zero_le _, rfl, HB1, intsK_made l1 _, hbel1⟩
  case round =>
    obtain ⟨j, cur, hj, rfl, HB, HK, hbel⟩ := hrel
    clear HB1 hbel1
    have hsz := (Array.getElem?_eq_some_iff.1 HB.out).1
    by_cases hjl : j < l1
    · obtain ⟨b, off, rfl, hbl, hcell⟩ := h1.1 (by omega)
      have hcx := (hbel.cell (p := ⟨b, off + j, none⟩) hbl).trans (hcell j hjl)
      have hbd := h1.2 j
      obtain ⟨y, hy⟩ : ∃ y, y = g1 j := ⟨_, rfl⟩
      rw [← hy] at hcx hbd
      have HY : Hid (y % 100 = g1 j % 100) := by rw [hy]; exact rfl
      clear hy hcell
      obtain ⟨hy0, hy1⟩ := hbd
      have hd := HK.out.2 j hjl
      have hcf : wr.cell? ⟨w.heap.size, j, none⟩ = some (.int .i8 (if j < j then g1 j % 100 else 0)) := by simp only [World.cell?, HB.out]; simpa using hd
      have hff : wr.frozen? ⟨w.heap.size, j, none⟩ = false := by simp [World.frozen?, HB.out]
      have HX : Hid ((wr.setCell ⟨w.heap.size, j, none⟩ (.int .i8 (y % 100))).heap[w.heap.size]? = _) := heap_set_same HB.out _
      have HKN : Hid (IntsK _ l1 (j + 1) _) := intsK_next HK.out hjl HY.out
      clear hd
      go_wp2_with fail
      go_roundw
      case rel => exact ⟨j + 1, _, by omega, by go_num, HX, HKN, hbel.setCell (Nat.le_refl _) _⟩
      case measure => simp [intOf]; omega
    · obtain rfl : j = l1 := by omega
      obtain ⟨wo, rfl⟩ : ∃ wo : World, wo = wr := ⟨_, rfl⟩
      have HF : Hid (IntsAt wo (some ⟨w.heap.size, 0, none⟩) j (listOf j fun i => g1 i % 100)) := ints_done HB.out HK.out (fun i => by have := h1.2 i; omega)
      clear HB HK
      go_wp2_with (at_make; go_must (refine wpList_make_full _ rfl _ _ 22 rfl wo.heap.size 42 i4 (.int .i8 0) 1 Yba.underlying22 hi4.out.1 hi4.out.2.1 hi4.out.2.2.1 .i64 .i64 _ _ l2 rfl rfl rfl rfl (by rw [hi4.out.2.2.2]; omega) (by unfold maxLen; omega) (Nat.le_refl _) ?_); intro w2 hown2 hg2)
      have HB2 : Hid (w2.heap[wo.heap.size]? = some (.cells (madeCells #[.int .i8 0] (l2 * 1)) 42 (0, 0))) := made_block hown2
      have hbel2 : Below wo.heap.size wo w2 := ⟨hg2.os, hg2.tape, hg2.output, hg2.size, fun k hk => hg2.block k hk (by simp)⟩
      clear hown2 hg2
      go_loopw [8] (fun t wq => ∃ (i : Nat) (cur : Array Value), i ≤ l2 ∧ t = .int .i64 i ∧ Hid (wq.heap[wo.heap.size]? = some (.cells cur 42 (0, 0))) ∧ Hid (IntsK cur l2 i (fun i => 100 + g2 i % 27)) ∧ Below wo.heap.size wo wq) (fun t _ => l2 - (intOf t).toNat)
      case atStart => exact ⟨0, _, Nat.zero_le _, rfl, HB2, intsK_made l2 _, hbel2⟩
      case round =>
        obtain ⟨i, cur2, hi, rfl, HB, HK, hbel3⟩ := hrel
        clear HB2 hbel2
        have hsz2 := (Array.getElem?_eq_some_iff.1 HB.out).1
        have hsw := hbel.size
        by_cases hil : i < l2
        · obtain ⟨b, off, rfl, hbl, hcell⟩ := h2.1 (by omega)
          have hcx := ((hbel3.cell (p := ⟨b, off + i, none⟩) (by show b < wo.heap.size; omega)).trans (hbel.cell (p := ⟨b, off + i, none⟩) hbl)).trans (hcell i hil)
          have hbd := h2.2 i
          obtain ⟨y, hy⟩ : ∃ y, y = g2 i := ⟨_, rfl⟩
          rw [← hy] at hcx hbd
          have HY : Hid (100 + y % 27 = 100 + g2 i % 27) := by rw [hy]; exact rfl
          clear hy hcell
          obtain ⟨hy0, hy1⟩ := hbd
          have hd := HK.out.2 i hil
          have hcf : wr.cell? ⟨wo.heap.size, i, none⟩ = some (.int .i8 (if i < i then 100 + g2 i % 27 else 0)) := by simp only [World.cell?, HB.out]; simpa using hd
          have hff : wr.frozen? ⟨wo.heap.size, i, none⟩ = false := by simp [World.frozen?, HB.out]
          have HX : Hid ((wr.setCell ⟨wo.heap.size, i, none⟩ (.int .i8 (100 + y % 27))).heap[wo.heap.size]? = _) := heap_set_same HB.out _
          have HKN : Hid (IntsK _ l2 (i + 1) _) := intsK_next HK.out hil HY.out
          clear hd
          go_wp2_with fail
          go_roundw
          case rel => exact ⟨i + 1, _, by omega, by go_num, HX, HKN, hbel3.setCell (Nat.le_refl _) _⟩
          case measure => simp [intOf]; omega
        · obtain rfl : i = l2 := by omega
          have HC : Hid (IntsAt wr (some ⟨wo.heap.size, 0, none⟩) i (listOf i fun i => 100 + g2 i % 27)) := ints_done HB.out HK.out (fun i => by have := h2.2 i; omega)
          have HF2 : Hid (IntsAt wr (some ⟨w.heap.size, 0, none⟩) j (listOf j fun i => g1 i % 100)) := HF.out.below hbel3
          have hbw : Below w.heap.size w wr := hbel.trans (hbel3.mono hsw)
          obtain ⟨fs, hfs⟩ : ∃ fs, fs = listOf j fun i => g1 i % 100 := ⟨_, rfl⟩
          obtain ⟨cs, hcs⟩ : ∃ cs, cs = listOf i fun i => 100 + g2 i % 27 := ⟨_, rfl⟩
          obtain ⟨cols, hcols⟩ : ∃ cols, (j = 0 ∧ cols = [0]) ∨ (0 < j ∧ cols = fs) := by
            by_cases e : j = 0
            · exact ⟨[0], Or.inl ⟨e, rfl⟩⟩
            · exact ⟨fs, Or.inr ⟨by omega, rfl⟩⟩
          have HNo : Hid (NoneOf cs cols) := by
            refine none_met (fun c hc => ?_) (fun c hc => ?_)
            · rw [hcs] at hc
              simp only [listOf, List.mem_map] at hc
              obtain ⟨m, _, rfl⟩ := hc
              have := h2.2 m; omega
            · rcases hcols with ⟨_, rfl⟩ | ⟨_, rfl⟩
              · simp at hc; omega
              · rw [hfs] at hc
                simp only [listOf, List.mem_map] at hc
                obtain ⟨m, _, rfl⟩ := hc
                have := h1.2 m; omega
          have HCo : Hid ((j = 0 ∧ cols = [0]) ∨ (0 < j ∧ cols = fs)) := hcols
          have hclen : 0 < cols.length ∧ cols.length ≤ 1024 := by
            rcases hcols with ⟨_, rfl⟩ | ⟨hp, rfl⟩
            · simp
            · rw [hfs, listOf_length]; omega
          have HCs : Hid (cs.length = i) := by rw [hcs]; exact listOf_length _ _
          rw [← hfs] at HF2
          rw [← hcs] at HC
          clear hfs hcs hcols HB HK HF h1 h2
          obtain ⟨hcl0, hcl1⟩ := hclen
          go_wp2_with fail
          refine (build6 _ _ j j i i fs cs cols wr HF2.out HC.out (by omega) (by omega) HCo.out).mono ?_
          rintro e w5 ⟨R, capR, b, gs, rfl, hTab, hConds, hbel5⟩
          obtain rfl : cs.length = i := HCs.out
          have hbd : Below w5.heap.size w5 w5.drew := (Below.refl _ _).drew
          have hix := hTab.ixs
          have hrow := hTab.row 0 hcl0
          have hpi : (0 : Int) < (cols.length : Int) := by omega
          have hb6 : Below w.heap.size w w5 := hbw.trans (hbel5.mono hbw.size)
          generalize hG : gs.getD 0 0 = G at hrow
          have HG : Hid (gs.getD 0 0 = G) := hG
          clear hG
          go_wp2_with fail
          go_region_with (go_at_call 7; refine (scanned7 cs cols gs b cs.length wr.heap.size R capR _ (by omega) (by omega) hcl0 ?_ ?_).mono ?_; exact hConds.below hbd; exact hTab.below hbd; rintro e w6 ⟨i0, rfl, hw, hb7⟩; obtain rfl : i0 = 0 := hw.one (Or.inr ⟨HNo.out, rfl⟩); have hix6 := ((hTab.below hbd).below hb7).ixs; have hrow6 := ((hTab.below hbd).below hb7).row 0 hcl0; rw [HG.out] at hrow6 ⊢)
          all_goals
            go_wp2_with fail
            go_ret
            exact ⟨rfl, hb6.trans ((hbd.trans hb7).mono hb6.size)⟩
end Go.Proofs.Ybulkdgpw
