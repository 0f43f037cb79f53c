import Derived.Test.YbulkdglaFoldFlat
import Derived.Deep.QuietTactic
import Derived.BigQuiet
import Derived.LoopN
import Derived.WalkSpells
namespace Go.Proofs.Ybulkdgla
open Go.ChangeShapes Go.WideShapes Go.ChangeAt Go.RowKit
attribute [local go_sem] eql_same neq_same

theorem get_map (L : List Nat) (j : Nat) (hj : j < L.length) : (L.reverse.map ptrOf)[j]? = some (ptrOf (L.reverse.getD j 0)) := by
  simp [List.getD, hj]

theorem text_any (x : Int) (h0 : 0 ≤ x) (_h1 : x ≤ 255) (w : World) :
    Calls Yba.prog 12 #[.int .u8 x] w fun e w' => ∃ t, e = .returned (.string t) ∧ w = w' := by
  have hm : x % 3 = 0 ∨ x % 3 = 1 ∨ x % 3 = 2 := by omega
  rcases hm with hm | hm | hm <;>
  · go_enter Yba.func12, Yba.ntmps12
    go_wp2
    go_ret
    exact ⟨_, rfl, rfl⟩

theorem const_any (t : ByteArray) (w : World) :
    Calls Yba.prog 9 #[.string t] w fun e w' => e = .returned (ptrOf w.heap.size) ∧ w' = w.alloc (leafObj t) := by
  go_enter Yba.func9, Yba.ntmps9
  go_wp2
  go_ret
  exact ⟨rfl, rfl⟩

/-! 'and', way by way. -/
theorem and_nil (q : Option Addr) (w : World) :
    Calls Yba.prog 10 #[.pointer none, .pointer q] w fun e w' => e = .returned (.pointer q) ∧ w' = w := by
  go_enter Yba.func10, Yba.ntmps10
  go_wp2
  go_ret
  exact ⟨rfl, rfl⟩
theorem and_right_nil (d : Nat) (w : World) :
    Calls Yba.prog 10 #[.pointer (some ⟨d, 0, none⟩), .pointer none] w fun e w' => e = .returned (.pointer (some ⟨d, 0, none⟩)) ∧ w' = w := by
  go_enter Yba.func10, Yba.ntmps10
  go_wp2
  go_ret
  exact ⟨rfl, rfl⟩
theorem and_node (d g : Nat) (w : World) :
    Calls Yba.prog 10 #[.pointer (some ⟨d, 0, none⟩), .pointer (some ⟨g, 0, none⟩)] w fun e w' => e = .returned (.pointer (some ⟨w.heap.size, 0, none⟩)) ∧ w' = w.alloc (nodeObj (some ⟨d, 0, none⟩) g) := by
  go_enter Yba.func10, Yba.ntmps10
  go_wp2
  go_ret
  exact ⟨rfl, rfl⟩

theorem fold_long (a0 : Option Addr) (len cap : Nat) (w : World) (h : 1024 < len) :
    Calls Yba.prog 6 #[.slice a0 len cap] w fun e w' => e = .returned (.bool true) ∧ Below w.heap.size w w' := by
  have h' : (1024 : Int) < (len : Int) := by omega
  go_enter Yba.func6, Yba.ntmps6
  go_wp2_with fail
  go_ret
  exact ⟨rfl, Below.refl _ _⟩

theorem fold_empty (a0 : Option Addr) (cap : Nat) (w : World) :
    Calls Yba.prog 6 #[.slice a0 0 cap] w fun e w' => e = .returned (.bool true) ∧ Below w.heap.size w w' := by
  go_enter Yba.func6, Yba.ntmps6
  go_wp2_with fail
  refine wp_loop_rounds 1 ?_
  rw [rounds_succ]
  go_wp2_with fail
  go_ret
  exact ⟨rfl, Below.refl _ _⟩

set_option maxHeartbeats 1600000 in
theorem fold_main (b off len cap : Nat) (zs : List Int) (w : World) (hlen : len ≤ 1024) (hz : len ≤ zs.length) (hb : b < w.heap.size)
    (hc : ∀ j, j < zs.length → w.cell? ⟨b, off + j, none⟩ = some (.int .u8 (zs.getD j 0))) (hr : ∀ j : Nat, 0 ≤ zs[j]?.getD 0 ∧ zs[j]?.getD 0 ≤ 255) :
    Calls Yba.prog 6 #[.slice (some ⟨b, off, none⟩) len cap] w fun e w' => e = .returned (.bool true) ∧ Below w.heap.size w w' := by
  obtain ⟨i0, hi, hz0, hz1, hz2⟩ := info_parts info22
  have hlen' : ¬ (1024 : Int) < (len : Int) := by omega
  go_enter Yba.func6, Yba.ntmps6
  go_wp2_with fail
  go_loopw [3, 4, 5] (fun e v i wr => ∃ (k : Nat) (gs : List Nat) (p : Option Addr), k ≤ len ∧ i = .int .i64 k ∧ gs.length ≤ k ∧ e = .pointer p ∧ wr.ownsRow w.heap.size 22 1 v gs.length (gs.reverse.map ptrOf) ∧ Flat wr gs p ∧ Below w.heap.size w wr)
    (fun _ _ i _ => len - (intOf i).toNat)
  case atStart => exact ⟨0, [], none, Nat.zero_le _, rfl, Nat.le_refl _, rfl, World.ownsRow_nil _ _ _ _, rfl, Below.refl _ _⟩
  case round =>
    obtain ⟨k, gs, p, hk, rfl, hgk, rfl, hown, hfl, hbel⟩ := hrel
    have hB := hbel.size
    by_cases hlt : k < len
    · have hcx : wr.cell? ⟨b, off + k, none⟩ = some (.int .u8 (zs.getD k 0)) := (hbel.cell (p := ⟨b, off + k, none⟩) hb).trans (hc k (by omega))
      obtain ⟨z0, z1⟩ := hr k
      have hzg : zs.getD k 0 = zs[k]?.getD 0 := by simp
      rw [hzg] at hcx
      clear hzg hr hc
      generalize zs[k]?.getD 0 = z at hcx z0 z1
      by_cases hzz : z = 0
      · subst hzz
        cases gs with
        | nil =>
          obtain rfl : p = none := hfl
          go_wp2_with (go_at_call 10; refine (and_nil _ _).mono ?_; rintro e w' ⟨rfl, rfl⟩)
          go_roundw
          case rel => exact ⟨k + 1, [], none, by omega, by go_num, by simp, rfl, hown, rfl, hbel⟩
          case measure => simp [intOf]; omega
        | cons g r =>
          obtain ⟨d, rfl⟩ := flat_some hfl
          go_wp2_with (go_at_call 10; refine (and_right_nil _ _).mono ?_; rintro e w' ⟨rfl, rfl⟩)
          go_roundw
          case rel => exact ⟨k + 1, g :: r, _, by omega, by go_num, by omega, rfl, hown, hfl, hbel⟩
          case measure => simp [intOf]; omega
      · have hzb : (z != 0) = true := by simpa using hzz
        clear hzz
        go_wp2_with fail
        refine (text_any z z0 z1 _).mono ?_
        rintro e w' ⟨t, rfl, rfl⟩
        go_wp2_with fail
        refine (const_any t _).mono ?_
        rintro e w' ⟨rfl, rfl⟩
        go_wp2_with (at_builtin; go_must (refine wpList_append_own _ rfl _ _ 35 rfl w.heap.size 22 i0 (.pointer none) 1 8 Yba.underlying35 hi hz0 hz1 hz2 rfl (by decide) _ _ _ rfl ((hown.alloc _).alloc _) ⟨wr.heap.size + 1, 0, none⟩ 1 1 [ptrOf wr.heap.size] rfl rfl ?_ ?_ ?_ ?_ ?_ ?_))
        case refine_1 => have := cell_one_new (wr.alloc (leafObj t)) (ptrOf wr.heap.size) 22; simpa using this
        case refine_2 => simp [Value.oneCell']
        case refine_3 => unfold maxLen; omega
        case refine_4 => omega
        case refine_5 => simp; omega
        intro v' w1 hown' hgrow _
        obtain ⟨hfl1, hlf1, hbel1⟩ := leaf_made hown hfl hbel hB hgrow
        have HO : Hid (w1.ownsRow w.heap.size 22 1 v' (wr.heap.size :: gs).length ((wr.heap.size :: gs).reverse.map ptrOf)) := by
          show w1.ownsRow _ _ _ _ _ _
          simpa using hown'
        have hB1 := hbel1.size
        clear hown' hgrow hown hfl hcx
        cases gs with
        | nil =>
          obtain rfl : p = none := hfl1
          go_wp2_with (go_at_call 10; refine (and_nil _ _).mono ?_; rintro e w' ⟨rfl, rfl⟩)
          go_roundw
          case rel => exact ⟨k + 1, [wr.heap.size], some ⟨wr.heap.size, 0, none⟩, by omega, by go_num, by simp, rfl, HO.out, flat_one hlf1, hbel1⟩
          case measure => simp [intOf]; omega
        | cons g r =>
          obtain ⟨d, rfl⟩ := flat_some hfl1
          go_wp2_with (go_at_call 10; refine (and_node _ _ _).mono ?_; rintro e w' ⟨rfl, rfl⟩)
          go_roundw
          case rel => exact ⟨k + 1, wr.heap.size :: g :: r, some ⟨w1.heap.size, 0, none⟩, by omega, by go_num, by simp at hgk ⊢; omega, rfl, HO.out.alloc _, flat_more hfl1 hlf1, hbel1.alloc hB1 _⟩
          case measure => simp [intOf]; omega
    · obtain rfl : k = len := by omega
      clear hc hr
      cases gs with
      | nil =>
        obtain rfl : p = none := hfl
        have hv : ∃ a c, u4 = .slice a 0 c := by
          rcases hown.2 with ⟨h, _⟩ | ⟨g, cap, cur, h, _⟩
          · exact ⟨_, _, h⟩
          · exact ⟨_, _, h⟩
        obtain ⟨av, cv, rfl⟩ := hv
        clear hown
        go_wp2_with fail
        go_ret
        exact ⟨rfl, hbel⟩
      | cons g r =>
        have hv : ∃ gw c, u4 = .slice (some ⟨gw, 0, none⟩) (g :: r).length c := by
          rcases hown.2 with ⟨_, h⟩ | ⟨g, cap, cur, h, _⟩
          · simp at h
          · exact ⟨_, _, h⟩
        obtain ⟨gw, cv, rfl⟩ := hv
        have hwl := (hown.lt gw rfl).2
        have hwant : ∀ j, j < (g :: r).length → wr.cell? ⟨gw, j, none⟩ = some (ptrOf ((g :: r).reverse.getD j 0)) := fun j hj => by
          rw [hown.cellAt j (by simpa using hj)]
          exact get_map _ j hj
        obtain ⟨L, hL⟩ : ∃ L, L = g :: r := ⟨_, rfl⟩
        rw [← hL] at hfl hwant hgk ⊢
        have hLp : 0 < L.length := by rw [hL]; simp
        clear hown hL
        go_wp2_with fail
        refine (flat_top wr L p hfl hLp (by omega)).mono ?_
        rintro e w1 ⟨gg, cg, rfl, hgot, hbel1⟩
        have hw1 : ∀ j, j < L.length → w1.cell? ⟨gw, j, none⟩ = some (ptrOf (L.reverse.getD j 0)) := fun j hj => (hbel1.cell (p := ⟨gw, j, none⟩) hwl).trans (hwant j hj)
        have hbel2 : Below w.heap.size w w1 := hbel.trans (hbel1.mono hB)
        clear hfl hwant hbel1 hbel
        have HG : Hid (∀ j, j < L.length → w1.cell? ⟨gg, j, none⟩ = some (ptrOf (L.reverse.getD j 0))) := hgot
        have HW : Hid (∀ j, j < L.length → w1.cell? ⟨gw, j, none⟩ = some (ptrOf (L.reverse.getD j 0))) := hw1
        clear hgot hw1
        go_wp2_with fail
        go_loopw [8] (fun i wq => ∃ j : Nat, j ≤ L.length ∧ i = .int .i64 j ∧ ∃ q, wq = w1.drewN q) (fun i _ => L.length - (intOf i).toNat)
        case atStart => exact ⟨0, Nat.zero_le _, rfl, 0, rfl⟩
        case round =>
          obtain ⟨j, hj, rfl, q, rfl⟩ := hrel
          by_cases hjl : j < L.length
          · have c1 := HG.out j hjl
            have c2 := HW.out j hjl
            generalize L.reverse.getD j 0 = G at c1 c2
            have hji : (0 : Int) ≤ (j : Int) := by omega
            have hjl' : (j : Int) < (L.length : Int) := by omega
            go_wp2_with fail
            go_quiet (fail)
            go_wp2_with fail
            go_roundw
            case rel => exact ⟨j + 1, by omega, by go_num, _, rfl⟩
            case measure => simp [intOf]; omega
          · go_wp2_with fail
            go_ret
            exact ⟨rfl, hbel2.trans ⟨rfl, rfl, rfl, Nat.le_refl _, fun _ _ => rfl⟩⟩
end Go.Proofs.Ybulkdgla
