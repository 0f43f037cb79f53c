import Derived.Test.YbulkdgpiEnd
namespace Go.Proofs.Ybulkdgpi
open Go.ChangeShapes Go.WideShapes Go.ChangeAt Go.RowKit

theorem model_long (s : ByteArray) (a1 : Int) (h : 1024 < s.size) (w : World) :
    Calls Yba.prog 3 #[.string s, .int .u16 a1] w fun e w' => e = .returned (.bool true) ∧ Grown w w' := by
  have h' : (1024 : Int) < (s.size : Int) := by omega
  go_enter Yba.func3, Yba.ntmps3
  go_wp2_with fail
  go_ret
  exact ⟨rfl, Grown.refl _⟩

set_option maxHeartbeats 1600000 in
theorem model_main (s : ByteArray) (a1 : Int) (hs : s.size ≤ 1024) (h0 : 0 ≤ a1) (h1 : a1 ≤ 65535) (w : World) :
    Calls Yba.prog 3 #[.string s, .int .u16 a1] w fun e w' => e = .returned (.bool true) ∧ Grown w w' := by
  have hs' : ¬ (1024 : Int) < (s.size : Int) := by omega
  obtain ⟨i, hi⟩ : ∃ i : Nat, a1 % ((s.size : Int) + 3) = (i : Int) := ⟨(a1 % ((s.size : Int) + 3)).toNat, by rw [Int.toNat_of_nonneg (Int.emod_nonneg _ (by omega))]⟩
  have hil : i < s.size + 3 := by
    have := Int.emod_lt_of_pos a1 (show (0 : Int) < (s.size : Int) + 3 by omega)
    omega
  go_enter Yba.func3, Yba.ntmps3
  go_wp2_with fail
  refine (end_any s i (by omega) (by omega) w).mono ?_
  rintro e w' ⟨kg, rfl, hend, rfl⟩
  have HE : Hid (IsEnd s i kg) := hend
  clear hend
  go_wp2_with fail
  go_loop [7] (fun t => ∃ k : Nat, t = .int .i64 k ∧ k ≤ 2000000 ∧ Run s i k) (fun t => s.size - (intOf t).toNat)
  case atStart => exact ⟨i, rfl, by omega, Run.start _ _⟩
  case round =>
    obtain ⟨k, rfl, hk, hrun⟩ := hrel
    have HR : Hid (Run s i k) := hrun
    clear hrun
    by_cases hlt : k < s.size
    · go_wp2_with fail
      have hb : (s[k].toNat : Int) ≤ 255 := by have := s[k].toNat_lt; omega
      have hb0 : (0 : Int) ≤ (s[k].toNat : Int) := by omega
      have H : Hid (okAt s k = okB (s[k].toNat : Int)) := okAt_lt hlt
      generalize (s[k].toNat : Int) = c at hb hb0 H ⊢
      rcases ways c hb0 hb with ⟨ho, hw⟩ | ⟨ho, hw⟩
      · have HO : Hid (okAt s k = true) := H.out.trans ho
        clear H ho
        refine (ok_true c hw w).mono ?_
        rintro e w' ⟨rfl, rfl⟩
        clear hw
        go_wp2_with fail
        go_round
        case rel => exact ⟨k + 1, by go_num, by omega, HR.out.step HO.out⟩
        case measure => simp [intOf]; omega
      · have HO : Hid (okAt s k = false) := H.out.trans ho
        clear H ho
        refine (ok_false c hw w).mono ?_
        rintro e w' ⟨rfl, rfl⟩
        clear hw
        obtain rfl : kg = k := HE.out.one (HR.out.stop HO.out)
        go_wp2_with fail
        go_ret
        exact ⟨rfl, Grown.refl _⟩
    · obtain rfl : kg = k := HE.out.one (HR.out.stop (okAt_ge hlt))
      go_wp2_with fail
      go_ret
      exact ⟨rfl, Grown.refl _⟩
end Go.Proofs.Ybulkdgpi
