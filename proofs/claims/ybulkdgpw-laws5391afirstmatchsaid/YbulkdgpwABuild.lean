import Derived.Test.YbulkdgpwABuildParts
namespace Go.Proofs.Ybulkdgpw
open Go.ChangeShapes Go.WideShapes Go.ChangeAt Go.RowKit
set_option linter.unusedVariables false

/-- A slice of int8 lies in w: its l elements fs. -/
def IntsAt (w : World) (a : Option Addr) (l : Nat) (fs : List Int) : Prop :=
  fs.length = l ∧ (0 < l → ∃ b off, a = some ⟨b, off, none⟩ ∧ b < w.heap.size ∧ ∀ j, j < l → w.cell? ⟨b, off + j, none⟩ = some (.int .i8 (fs.getD j 0))) ∧ ∀ j : Nat, -128 ≤ fs.getD j 0 ∧ fs.getD j 0 ≤ 127

abbrev Inf (t : TypeId) (i : TypeInfo) (z : Value) (size bytes : Nat) : Prop := Hid (Yba.prog.info? t = some i ∧ i.zero = some z ∧ i.size = size ∧ i.bytes = bytes)

set_option maxHeartbeats 3200000 in
theorem build6_nil (a1 a2 : Option Addr) (c1 l2 c2 : Nat) (fs cs cols : List Int) (w : World) (h1 : IntsAt w a1 0 fs) (h2 : IntsAt w a2 l2 cs) (hl1 : 0 ≤ 1024) (hl2 : l2 ≤ 1024) (hcols : Hid (cols = [0])) :
    Calls Yba.prog 6 #[.slice a1 0 c1, .slice a2 l2 c2] w fun e w' => ∃ R capR b gs, e = .returned (.tuple #[ptrOf w.heap.size, .slice (some ⟨b, 0, none⟩) l2 l2]) ∧
      Tab w' w.heap.size R capR gs cols ∧ Conds w' b cs ∧ Below w.heap.size w w' := by
  obtain ⟨i0, hi0⟩ : ∃ i0, Inf 41 i0 (.pointer none) 1 8 := info_parts info41
  obtain ⟨i5, hi5⟩ : ∃ i5, Inf 51 i5 (.agg (condCells 0)) 6 72 := info_parts info51
  obtain ⟨n, hn⟩ : ∃ n, n = cols.length := ⟨_, rfl⟩
  have hn1 : n = 1 := by rw [hn, hcols.out]; rfl
  have hnA : (n : Int) ≤ 1 := by omega
  have hnB : (1 : Int) ≤ (n : Int) := by omega
  clear hn1
  have HN : Hid (n = cols.length) := hn
  have HR0 : Hid (TabR w (w.alloc (tabObj (.slice none 0 0))) w.heap.size 0 (.slice none 0 0) [] cols) :=
    ⟨rfl, (MapKept.heap_alloc w _).1, World.ownsRow_nil _ _ _ _, fun i hi => by omega, (Below.refl _ _).alloc (Nat.le_refl _) _⟩
  clear hn
  go_enter Yba.func6, Yba.ntmps6
  go_wp2_with fail
  go_loopw [8] (fun t wr => ∃ (k : Nat) (ao : Option Addr) (cp : Nat) (gs : List Nat), k ≤ n ∧ t = .int .i64 k ∧ Hid (TabR w wr w.heap.size k (.slice ao k cp) gs cols)) (fun t _ => n - (intOf t).toNat)
  case atStart => exact ⟨0, none, 0, [], Nat.zero_le _, rfl, HR0⟩
  case round =>
    obtain ⟨k, ao, cp, gs, hk, rfl, HT⟩ := hrel
    by_cases hlt : k < n
    · have hTl := HT.out.lt
      have hTc : ∀ o1 o2, ((wr.alloc o1).alloc o2).cell? ⟨w.heap.size, 3, none⟩ = some (.slice ao k cp) := fun o1 o2 => by
        rw [World.cell?_alloc_lt _ _ _ (by simp; omega), World.cell?_alloc_lt _ _ _ hTl]
        simp [World.cell?, HT.out.tab]
      have HC : Hid ((0 : Int) = cols.getD k 0) := by
        show (0 : Int) = cols.getD k 0
        rw [hcols.out, show k = 0 by omega]; rfl
      go_wp2_with (at_builtin; go_must (refine wpList_append_lies _ rfl _ _ 30 rfl (w.heap.size + 1) 41 i0 (.pointer none) 1 8 Yba.underlying30 hi0.out.1 hi0.out.2.1 hi0.out.2.2.1 hi0.out.2.2.2 rfl (by decide) _ _ _ rfl (((HT.out.own.alloc _).alloc _).alloc _) ⟨wr.heap.size + 1 + 1, 0, none⟩ 1 1 [ptrOf (wr.heap.size + 1)] rfl rfl ?c1 (by simp [Value.oneCell']) (by decide) (by unfold maxLen; omega) (by omega) (by simp; omega) _ rfl ?c2))
      case c1 => have := cell_one_new ((wr.alloc (.cells #[.int .i64 0] 3)).alloc (idxObj w.heap.size wr.heap.size)) (ptrOf (wr.heap.size + 1)) 41; simpa using this
      intro g cap w1 hown1 hgrow _ _
      have hT1 := HT.out.mid hgrow
      have hTc1 : w1.cell? ⟨w.heap.size, 3, none⟩ = some (.slice ao k cp) := by simp [World.cell?, hT1]
      have hTf1 : w1.frozen? ⟨w.heap.size, 3, none⟩ = false := by simp [World.frozen?, hT1]
      have HX : Hid (TabR w (w1.setCell ⟨w.heap.size, 3, none⟩ (.slice (some ⟨g, 0, none⟩) (k + 1) cap)) w.heap.size (k + 1) (.slice (some ⟨g, 0, none⟩) (k + 1) cap) (gs ++ [wr.heap.size + 1]) cols) := HT.out.next HC.out hgrow (by simpa using hown1)
      clear hown1 hgrow hT1 hTc
      go_wp2_with fail
      go_roundw
      case rel => exact ⟨k + 1, some ⟨g, 0, none⟩, cap, gs ++ [wr.heap.size + 1], by omega, by go_num, HX⟩
      case measure => simp [intOf]; omega
    · have HKL : Hid (k = cols.length) := (show k = n by omega).trans HN.out
      obtain ⟨wo, rfl⟩ : ∃ wo : World, wo = wr := ⟨_, rfl⟩
      go_wp2_with (at_make; go_must (refine wpList_make_full _ rfl _ _ 24 rfl wo.heap.size 51 i5 (.agg (condCells 0)) 6 Yba.underlying24 hi5.out.1 hi5.out.2.1 hi5.out.2.2.1 .i64 .i64 _ _ l2 rfl rfl rfl rfl (by rw [hi5.out.2.2.2]; omega) (by unfold maxLen; omega) (Nat.le_refl _) ?_); intro w1 hown1 hg1)
      have HB1 : Hid (w1.heap[wo.heap.size]? = some (.cells (madeCells (condCells 0) (l2 * 6)) 51 (0, 0))) := made_block hown1
      have hbel1 : Below wo.heap.size wo w1 := ⟨hg1.os, hg1.tape, hg1.output, hg1.size, fun k hk => hg1.block k hk (by simp)⟩
      clear hown1 hg1
      go_loopw [12] (fun t wq => ∃ (j : Nat) (cur : Array Value), j ≤ l2 ∧ t = .int .i64 j ∧ Hid (wq.heap[wo.heap.size]? = some (.cells cur 51 (0, 0))) ∧ Hid (CondsK cur l2 j cs) ∧ Below wo.heap.size wo wq) (fun t _ => l2 - (intOf t).toNat)
      case atStart => exact ⟨0, _, Nat.zero_le _, rfl, HB1, condsK_made l2 cs, hbel1⟩
      case round =>
        obtain ⟨j, cur, hj, rfl, HB, HK, hbel⟩ := hrel
        by_cases hjl : j < l2
        · obtain ⟨b2, off2, rfl, hbl2, hcell2⟩ := h2.2.1 (by omega)
          have hTw : w.heap.size ≤ wo.heap.size := HT.out.below.size
          have hcx := ((hbel.cell (p := ⟨b2, off2 + j, none⟩) (by show b2 < wo.heap.size; omega)).trans (HT.out.below.cell (p := ⟨b2, off2 + j, none⟩) hbl2)).trans (hcell2 j hjl)
          have hbd2 := h2.2.2 j
          obtain ⟨y, hy⟩ : ∃ y, y = cs.getD j 0 := ⟨_, rfl⟩
          rw [← hy] at hcx hbd2
          have HY : Hid (y = cs.getD j 0) := hy
          clear hy hcell2
          obtain ⟨hy0, hy1⟩ := hbd2
          obtain ⟨d0, d1, d2, d3, d4, d5⟩ := HK.out.2 j hjl
          have hcell : ∀ i, wr.cell? ⟨wo.heap.size, i, none⟩ = cur[i]? := fun i => by simp [World.cell?, HB.out]
          have hfr : ∀ i, wr.frozen? ⟨wo.heap.size, i, none⟩ = false := fun i => by simp [World.frozen?, HB.out]
          have HX : Hid ((putCond wr wo.heap.size (j * 6) y).heap[wo.heap.size]? = _) := putCond_block HB.out y
          have HK' := condsK_next HK.out hjl HY.out
          have HKN : Hid (CondsK _ l2 (j + 1) cs) := HK'
          clear HK'
          go_wp2_with fail
          go_roundw
          case rel => exact ⟨j + 1, _, by omega, by go_num, HX, HKN, putCond_below hbel (Nat.le_refl _) y⟩
          case measure => simp [intOf]; omega
        · have hjj : j = l2 := by omega
          have HC2 : Hid (Conds wr wo.heap.size cs) := conds_done h2.1 HB.out (by have := HK.out; rw [hjj] at this; exact this)
          have HT2 : Hid (∃ R, Tab wr w.heap.size R cp gs cols) := tab_done HT.out HKL.out (by omega) hbel
          have hbw : Below w.heap.size w wr := HT.out.below.trans (hbel.mono HT.out.below.size)
          clear hjj
          go_wp2_with fail
          go_ret2
          obtain ⟨R, hTab⟩ := HT2.out
          exact ⟨R, cp, _, gs, rfl, hTab, HC2.out, hbw⟩

set_option maxHeartbeats 3200000 in
theorem build6_some (a1 a2 : Option Addr) (l1 c1 l2 c2 : Nat) (fs cs cols : List Int) (w : World) (h1 : IntsAt w a1 l1 fs) (h2 : IntsAt w a2 l2 cs) (hl1 : l1 ≤ 1024) (hl2 : l2 ≤ 1024) (hp : 0 < l1) (hcols : Hid (cols = fs)) :
    Calls Yba.prog 6 #[.slice a1 l1 c1, .slice a2 l2 c2] w fun e w' => ∃ R capR b gs, e = .returned (.tuple #[ptrOf w.heap.size, .slice (some ⟨b, 0, none⟩) l2 l2]) ∧
      Tab w' w.heap.size R capR gs cols ∧ Conds w' b cs ∧ Below w.heap.size w w' := by
  obtain ⟨i0, hi0⟩ : ∃ i0, Inf 41 i0 (.pointer none) 1 8 := info_parts info41
  obtain ⟨i5, hi5⟩ : ∃ i5, Inf 51 i5 (.agg (condCells 0)) 6 72 := info_parts info51
  obtain ⟨n, hn⟩ : ∃ n, n = cols.length := ⟨_, rfl⟩
  obtain rfl : l1 = n := by rw [hn, hcols.out]; exact h1.1.symm
  have hnz : ((l1 : Int) == 0) = false := by simp; omega
  have HN : Hid (l1 = cols.length) := hn
  have HR0 : Hid (TabR w (w.alloc (tabObj (.slice none 0 0))) w.heap.size 0 (.slice none 0 0) [] cols) :=
    ⟨rfl, (MapKept.heap_alloc w _).1, World.ownsRow_nil _ _ _ _, fun i hi => by omega, (Below.refl _ _).alloc (Nat.le_refl _) _⟩
  clear hn
  go_enter Yba.func6, Yba.ntmps6
  go_wp2_with fail
  go_loopw [8] (fun t wr => ∃ (k : Nat) (ao : Option Addr) (cp : Nat) (gs : List Nat), k ≤ l1 ∧ t = .int .i64 k ∧ Hid (TabR w wr w.heap.size k (.slice ao k cp) gs cols)) (fun t _ => l1 - (intOf t).toNat)
  case atStart => exact ⟨0, none, 0, [], Nat.zero_le _, rfl, HR0⟩
  case round =>
    obtain ⟨k, ao, cp, gs, hk, rfl, HT⟩ := hrel
    by_cases hlt : k < l1
    · have hTl := HT.out.lt
      have hTc : ∀ o1 o2, ((wr.alloc o1).alloc o2).cell? ⟨w.heap.size, 3, none⟩ = some (.slice ao k cp) := fun o1 o2 => by
        rw [World.cell?_alloc_lt _ _ _ (by simp; omega), World.cell?_alloc_lt _ _ _ hTl]
        simp [World.cell?, HT.out.tab]
      obtain ⟨b, off, rfl, hbl, hcell⟩ := h1.2.1 hp
      have hcx := (HT.out.below.cell (p := ⟨b, off + k, none⟩) hbl).trans (hcell k hlt)
      have hbd := h1.2.2 k
      have HC : Hid (fs.getD k 0 = cols.getD k 0) := by rw [hcols.out]; exact rfl
      generalize fs.getD k 0 = c at hcx hbd HC
      obtain ⟨hc0, hc1⟩ := hbd
      clear hcell
      go_wp2_with (at_builtin; go_must (refine wpList_append_lies _ rfl _ _ 30 rfl (w.heap.size + 1) 41 i0 (.pointer none) 1 8 Yba.underlying30 hi0.out.1 hi0.out.2.1 hi0.out.2.2.1 hi0.out.2.2.2 rfl (by decide) _ _ _ rfl (((HT.out.own.alloc _).alloc _).alloc _) ⟨wr.heap.size + 1 + 1, 0, none⟩ 1 1 [ptrOf (wr.heap.size + 1)] rfl rfl ?c1 (by simp [Value.oneCell']) (by decide) (by unfold maxLen; omega) (by omega) (by simp; omega) _ rfl ?c2))
      case c1 => have := cell_one_new ((wr.alloc (.cells #[.int .i64 c] 3)).alloc (idxObj w.heap.size wr.heap.size)) (ptrOf (wr.heap.size + 1)) 41; simpa using this
      intro g cap w1 hown1 hgrow _ _
      have hT1 := HT.out.mid hgrow
      have hTc1 : w1.cell? ⟨w.heap.size, 3, none⟩ = some (.slice ao k cp) := by simp [World.cell?, hT1]
      have hTf1 : w1.frozen? ⟨w.heap.size, 3, none⟩ = false := by simp [World.frozen?, hT1]
      have HX : Hid (TabR w (w1.setCell ⟨w.heap.size, 3, none⟩ (.slice (some ⟨g, 0, none⟩) (k + 1) cap)) w.heap.size (k + 1) (.slice (some ⟨g, 0, none⟩) (k + 1) cap) (gs ++ [wr.heap.size + 1]) cols) := HT.out.next HC.out hgrow (by simpa using hown1)
      clear hown1 hgrow hT1 hTc
      go_wp2_with fail
      go_roundw
      case rel => exact ⟨k + 1, some ⟨g, 0, none⟩, cap, gs ++ [wr.heap.size + 1], by omega, by go_num, HX⟩
      case measure => simp [intOf]; omega
    · have HKL : Hid (k = cols.length) := (show k = l1 by omega).trans HN.out
      obtain ⟨wo, rfl⟩ : ∃ wo : World, wo = wr := ⟨_, rfl⟩
      go_wp2_with (at_make; go_must (refine wpList_make_full _ rfl _ _ 24 rfl wo.heap.size 51 i5 (.agg (condCells 0)) 6 Yba.underlying24 hi5.out.1 hi5.out.2.1 hi5.out.2.2.1 .i64 .i64 _ _ l2 rfl rfl rfl rfl (by rw [hi5.out.2.2.2]; omega) (by unfold maxLen; omega) (Nat.le_refl _) ?_); intro w1 hown1 hg1)
      have HB1 : Hid (w1.heap[wo.heap.size]? = some (.cells (madeCells (condCells 0) (l2 * 6)) 51 (0, 0))) := made_block hown1
      have hbel1 : Below wo.heap.size wo w1 := ⟨hg1.os, hg1.tape, hg1.output, hg1.size, fun k hk => hg1.block k hk (by simp)⟩
      clear hown1 hg1
      go_loopw [12] (fun t wq => ∃ (j : Nat) (cur : Array Value), j ≤ l2 ∧ t = .int .i64 j ∧ Hid (wq.heap[wo.heap.size]? = some (.cells cur 51 (0, 0))) ∧ Hid (CondsK cur l2 j cs) ∧ Below wo.heap.size wo wq) (fun t _ => l2 - (intOf t).toNat)
      case atStart => exact ⟨0, _, Nat.zero_le _, rfl, HB1, condsK_made l2 cs, hbel1⟩
      case round =>
        obtain ⟨j, cur, hj, rfl, HB, HK, hbel⟩ := hrel
        by_cases hjl : j < l2
        · obtain ⟨b2, off2, rfl, hbl2, hcell2⟩ := h2.2.1 (by omega)
          have hTw : w.heap.size ≤ wo.heap.size := HT.out.below.size
          have hcx := ((hbel.cell (p := ⟨b2, off2 + j, none⟩) (by show b2 < wo.heap.size; omega)).trans (HT.out.below.cell (p := ⟨b2, off2 + j, none⟩) hbl2)).trans (hcell2 j hjl)
          have hbd2 := h2.2.2 j
          obtain ⟨y, hy⟩ : ∃ y, y = cs.getD j 0 := ⟨_, rfl⟩
          rw [← hy] at hcx hbd2
          have HY : Hid (y = cs.getD j 0) := hy
          clear hy hcell2
          obtain ⟨hy0, hy1⟩ := hbd2
          obtain ⟨d0, d1, d2, d3, d4, d5⟩ := HK.out.2 j hjl
          have hcell : ∀ i, wr.cell? ⟨wo.heap.size, i, none⟩ = cur[i]? := fun i => by simp [World.cell?, HB.out]
          have hfr : ∀ i, wr.frozen? ⟨wo.heap.size, i, none⟩ = false := fun i => by simp [World.frozen?, HB.out]
          have HX : Hid ((putCond wr wo.heap.size (j * 6) y).heap[wo.heap.size]? = _) := putCond_block HB.out y
          have HK' := condsK_next HK.out hjl HY.out
          have HKN : Hid (CondsK _ l2 (j + 1) cs) := HK'
          clear HK'
          go_wp2_with fail
          go_roundw
          case rel => exact ⟨j + 1, _, by omega, by go_num, HX, HKN, putCond_below hbel (Nat.le_refl _) y⟩
          case measure => simp [intOf]; omega
        · have hjj : j = l2 := by omega
          have HC2 : Hid (Conds wr wo.heap.size cs) := conds_done h2.1 HB.out (by have := HK.out; rw [hjj] at this; exact this)
          have HT2 : Hid (∃ R, Tab wr w.heap.size R cp gs cols) := tab_done HT.out HKL.out (by omega) hbel
          have hbw : Below w.heap.size w wr := HT.out.below.trans (hbel.mono HT.out.below.size)
          clear hjj
          go_wp2_with fail
          go_ret2
          obtain ⟨R, hTab⟩ := HT2.out
          exact ⟨R, cp, _, gs, rfl, hTab, HC2.out, hbw⟩

/-- 'zzs5391abuild'. -/
theorem build6 (a1 a2 : Option Addr) (l1 c1 l2 c2 : Nat) (fs cs cols : List Int) (w : World) (h1 : IntsAt w a1 l1 fs) (h2 : IntsAt w a2 l2 cs) (hl1 : l1 ≤ 1024) (hl2 : l2 ≤ 1024) (hcols : (l1 = 0 ∧ cols = [0]) ∨ (0 < l1 ∧ cols = fs)) :
    Calls Yba.prog 6 #[.slice a1 l1 c1, .slice a2 l2 c2] w fun e w' => ∃ R capR b gs, e = .returned (.tuple #[ptrOf w.heap.size, .slice (some ⟨b, 0, none⟩) l2 l2]) ∧
      Tab w' w.heap.size R capR gs cols ∧ Conds w' b cs ∧ Below w.heap.size w w' := by
  rcases hcols with ⟨rfl, hc⟩ | ⟨hp, hc⟩
  · exact build6_nil a1 a2 c1 l2 c2 fs cs cols w h1 h2 hl1 hl2 hc
  · exact build6_some a1 a2 l1 c1 l2 c2 fs cs cols w h1 h2 hl1 hl2 hp hc
end Go.Proofs.Ybulkdgpw
