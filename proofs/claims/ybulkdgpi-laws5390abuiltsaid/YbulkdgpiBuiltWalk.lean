import Derived.Test.YbulkdgpiBuiltParts
import Derived.WalkSpells
import Derived.Maps.AppendAt
namespace Go.Proofs.Ybulkdgpi
open Go.ChangeShapes Go.WideShapes Go.ChangeAt Go.RowKit

theorem built_long (p t : ByteArray) (a0 : Option Addr) (len cap : Nat) (z : Int) (h : 1024 < p.size ∨ 1024 < len ∨ 1024 < t.size) (w : World) :
    Calls Yba.prog 4 #[.string p, .slice a0 len cap, .int .u8 z, .string t] w fun e w' => e = .returned (.bool true) ∧ Below w.heap.size w w' := by
  by_cases h1 : (1024 : Int) < (p.size : Int)
  · go_enter Yba.func4, Yba.ntmps4
    go_wp2_with fail
    go_ret
    exact ⟨rfl, Below.refl _ _⟩
  · by_cases h2 : (1024 : Int) < (len : Int)
    · go_enter Yba.func4, Yba.ntmps4
      go_wp2_with fail
      go_ret
      exact ⟨rfl, Below.refl _ _⟩
    · have h3 : (1024 : Int) < (t.size : Int) := by omega
      go_enter Yba.func4, Yba.ntmps4
      go_wp2_with fail
      go_ret
      exact ⟨rfl, Below.refl _ _⟩

set_option maxHeartbeats 3200000 in
theorem built_main (p t : ByteArray) (a0 : Option Addr) (len cap : Nat) (zs : List Int) (z : Int) (hp : p.size ≤ 1024) (hl : len ≤ 1024) (ht : t.size ≤ 1024) (hz : len ≤ zs.length) (z0 : 0 ≤ z) (z1 : z ≤ 255)
    (hr : ∀ j : Nat, 0 ≤ zs[j]?.getD 0 ∧ zs[j]?.getD 0 ≤ 255) (w : World)
    (hc : 0 < len → ∃ b off, a0 = some ⟨b, off, none⟩ ∧ b < w.heap.size ∧ ∀ j, j < zs.length → w.cell? ⟨b, off + j, none⟩ = some (.int .u8 (zs.getD j 0))) :
    Calls Yba.prog 4 #[.string p, .slice a0 len cap, .int .u8 z, .string t] w fun e w' => e = .returned (.bool true) ∧ Below w.heap.size w w' := by
  obtain ⟨i0, hi, hz0, hz1, hz2⟩ := info_parts info5
  have h1 : ¬ (1024 : Int) < (p.size : Int) := by omega
  have h2 : ¬ (1024 : Int) < (len : Int) := by omega
  have h3 : ¬ (1024 : Int) < (t.size : Int) := by omega
  have hst := stop_index z
  have hB := Below.refl w.heap.size w
  go_enter Yba.func4, Yba.ntmps4
  go_wp2_with (first | (at_make; refine wpList_make_own _ rfl _ _ 26 rfl w.heap.size 5 i0 (.int .u8 0) 1 Yba.underlying26 hi hz0 hz1 .i64 .i64 _ (p.size + len + 1 + t.size) rfl rfl (by omega) (by rw [hz2]; omega) (by unfold maxLen; omega) (Nat.le_refl _) ?_; intro w1 hown1 hg1) | (at_builtin; refine Lib.wpList_append_fits_string _ rfl _ _ 26 9 rfl w.heap.size 5 i0 Yba.underlying26 Yba.underlying9 hi hz1 _ _ _ _ rfl hown1 p rfl (by omega) (by omega) ?_; intro w2 hown2 hg2))
  have hb1 := hB.grown hg1 (Nat.le_refl _) (fun k hk => by cases hk)
  have hb2 := hb1.grown hg2 hb1.size (fun k hk => (hown1.lt k hk).1)
  simp only [Nat.zero_add, List.nil_append, Lib.strCells] at hown2
  clear hg1 hg2 hb1 hown1
  go_loopw [9, 10] (fun v i wr => ∃ k : Nat, k ≤ len ∧ i = .int .i64 k ∧ v = .slice (some ⟨w.heap.size, 0, none⟩) (p.size + k) (p.size + len + 1 + t.size) ∧ wr.ownsRow w.heap.size 5 1 (.slice (some ⟨w.heap.size, 0, none⟩) (p.size + k) (p.size + len + 1 + t.size)) (p.size + k) (cellsOf (p.data.toList ++ bodyB zs k)) ∧ Below w.heap.size w wr)
    (fun _ i _ => len - (intOf i).toNat)
  case atStart => exact ⟨0, Nat.zero_le _, rfl, rfl, by simpa [cellsOf, bodyB] using hown2, hb2⟩
  case round =>
    obtain ⟨k, hk, rfl, rfl, hown, hbel⟩ := hrel
    have hBs := hbel.size
    by_cases hlt : k < len
    · obtain ⟨b, off, rfl, hbl, hcell⟩ := hc (by omega)
      have hcx : wr.cell? ⟨b, off + k, none⟩ = some (.int .u8 (zs.getD k 0)) := (hbel.cell (p := ⟨b, off + k, none⟩) hbl).trans (hcell k (by omega))
      obtain ⟨y0, y1⟩ := hr k
      have hzg : zs.getD k 0 = zs[k]?.getD 0 := by simp
      have HS : Hid (bodyB zs (k + 1) = bodyB zs k ++ [allowOf (zs[k]?.getD 0)]) := bodyB_succ zs k (by omega)
      rw [hzg] at hcx
      clear hzg hr hc hcell hown2 hst
      generalize zs[k]?.getD 0 = y at hcx y0 y1 HS
      have hix := allow_index y
      go_wp2_with (at_builtin; go_must (refine wpList_append_fits _ rfl _ _ 26 rfl w.heap.size 5 i0 1 Yba.underlying26 hi hz1 _ _ _ _ rfl (hown.alloc _) ⟨wr.heap.size, 0, none⟩ 1 1 [.int .u8 ((allowOf y).toNat : Int)] rfl rfl (cell_one_new _ _ _) (by simp [Value.oneCell']) (by omega) ?_); intro w3 hown3 hg3)
      have hb3 : Below w.heap.size w w3 := (hbel.alloc hBs _).grown hg3 (by simp; omega) (fun j hj => by cases hj; exact Nat.le_refl _)
      have R : w3.ownsRow w.heap.size 5 1 (.slice (some ⟨w.heap.size, 0, none⟩) (p.size + (k + 1)) (p.size + len + 1 + t.size)) (p.size + (k + 1)) (cellsOf (p.data.toList ++ bodyB zs (k + 1))) := by
        rw [HS.out, ← List.append_assoc, cellsOf_append]
        exact hown3
      clear hown3 hown hg3
      go_roundw
      case rel => exact ⟨k + 1, by omega, by go_num, rfl, R, hb3⟩
      case measure => simp [intOf]; omega
    · obtain rfl : k = len := by omega
      clear hc hr hown2
      have tok : True := trivial
      go_wp2_with (first | (at_builtin; have _t := tok; refine wpList_append_fits _ rfl _ _ 26 rfl w.heap.size 5 i0 1 Yba.underlying26 hi hz1 _ _ _ _ rfl (hown.alloc _) ⟨wr.heap.size, 0, none⟩ 1 1 [.int .u8 ((stopOf z).toNat : Int)] rfl rfl (cell_one_new _ _ _) (by simp [Value.oneCell']) (by omega) ?_; intro w3 hown3 hg3; clear tok) | (at_builtin; refine Lib.wpList_append_fits_string _ rfl _ _ 26 9 rfl w.heap.size 5 i0 Yba.underlying26 Yba.underlying9 hi hz1 _ _ _ _ rfl hown3 t rfl (by omega) (by omega) ?_; intro w4 hown4 hg4; obtain ⟨S, hS1, hS2, HE, hcv⟩ := conv_whole hz hp hl ht hown4))
      have hb3 : Below w.heap.size w w3 := (hbel.alloc hBs _).grown hg3 (by simp; omega) (fun j hj => by cases hj; exact Nat.le_refl _)
      have hb4 : Below w.heap.size w w4 := hb3.grown hg4 hb3.size (fun j hj => (hown3.lt j hj).1)
      clear hown hown3 hown4 hg3 hg4 hb3 hcv hst hb2
      refine (end_any S p.size (by omega) (by omega) w4).mono ?_
      rintro e w' ⟨kg, rfl, hend, rfl⟩
      obtain rfl : p.size + k = kg := HE.out.one hend
      clear hend
      rw [show ((p.size + k : Nat) : Int) = (p.size : Int) + (k : Int) from by omega]
      go_wp2_with fail
      go_loop [13] (fun i => ∃ j : Nat, i = .int .i64 j ∧ p.size ≤ j ∧ j ≤ p.size + k) (fun i => p.size + k - (intOf i).toNat)
      case atStart => exact ⟨p.size, rfl, Nat.le_refl _, by omega⟩
      case round =>
        obtain ⟨j, rfl, hj1, hj2⟩ := hrel
        by_cases hjl : j < p.size + k
        · have hjS : j < S.size := by omega
          have H : Hid (okB (S[j].toNat : Int) = true) := (okAt_lt hjS).symm.trans (HE.out.2.1 j hj1 hjl)
          go_wp2_with fail
          have hb5 : (S[j].toNat : Int) ≤ 255 := by have := S[j].toNat_lt; omega
          have hb0 : (0 : Int) ≤ (S[j].toNat : Int) := by omega
          generalize (S[j].toNat : Int) = c at hb5 hb0 H ⊢
          rcases ways c hb0 hb5 with ⟨ho, hw⟩ | ⟨ho, hw⟩
          · clear H ho
            refine (ok_true c hw w4).mono ?_
            rintro e w' ⟨rfl, rfl⟩
            clear hw
            go_wp2_with fail
            go_round
            case rel => exact ⟨j + 1, by go_num, by omega, by omega⟩
            case measure => simp [intOf]; omega
          · exact absurd (H.out.symm.trans ho) (by simp)
        · go_wp2_with fail
          go_ret
          exact ⟨rfl, hb4⟩
end Go.Proofs.Ybulkdgpi
