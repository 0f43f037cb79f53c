import Derived.Test.YbulkdgpiOk
namespace Go.Proofs.Ybulkdgpi
open Go.ChangeShapes Go.WideShapes Go.ChangeAt Go.RowKit

theorem dig_t (c : Int) (h : 48 ≤ c ∧ c ≤ 57) (w : World) : Calls Yba.prog 7 #[.int .u8 c] w fun e w' => e = .returned (.bool true) ∧ w = w' := by
  have := dig_any c (by omega) (by omega) w
  rwa [show digB c = true by simp [digB]; omega] at this
theorem dig_f (c : Int) (h0 : 0 ≤ c) (h1 : c ≤ 255) (h : c < 48 ∨ 57 < c) (w : World) : Calls Yba.prog 7 #[.int .u8 c] w fun e w' => e = .returned (.bool false) ∧ w = w' := by
  have := dig_any c h0 h1 w
  rwa [show digB c = false by simp [digB]; omega] at this
theorem let_t (c : Int) (h : (97 ≤ c ∧ c ≤ 122) ∨ (65 ≤ c ∧ c ≤ 90)) (w : World) : Calls Yba.prog 8 #[.int .u8 c] w fun e w' => e = .returned (.bool true) ∧ w = w' := by
  have := let_any c (by omega) (by omega) w
  rwa [show letB c = true by simp [letB]; omega] at this
theorem let_f (c : Int) (h0 : 0 ≤ c) (h1 : c ≤ 255) (h : c < 65 ∨ (90 < c ∧ c < 97) ∨ 122 < c) (w : World) : Calls Yba.prog 8 #[.int .u8 c] w fun e w' => e = .returned (.bool false) ∧ w = w' := by
  have := let_any c h0 h1 w
  rwa [show letB c = false by simp [letB]; omega] at this

set_option maxHeartbeats 1600000 in
theorem end_any (s : ByteArray) (i : Nat) (hs : s.size ≤ 1000000) (hi : i ≤ 2000000) (w : World) :
    Calls Yba.prog 5 #[.string s, .int .i64 i] w fun e w' => ∃ k : Nat, e = .returned (.int .i64 k) ∧ IsEnd s i k ∧ w = w' := by
  go_enter Yba.func5, Yba.ntmps5
  go_wp2_with fail
  go_loop [1] (fun t => ∃ k : Nat, t = .int .i64 k ∧ k ≤ 2000000 ∧ Run s i k) (fun t => s.size - (intOf t).toNat)
  case atStart => exact ⟨i, rfl, hi, Run.start _ _⟩
  case round =>
    obtain ⟨k, rfl, hk, hrun⟩ := hrel
    have HR : Hid (Run s i k) := hrun
    clear hrun
    by_cases hlt : k < s.size
    · go_wp2_with fail
      have hb : (s[k].toNat : Int) ≤ 255 := by have := s[k].toNat_lt; omega
      have hb0 : (0 : Int) ≤ (s[k].toNat : Int) := by omega
      have H : Hid (okAt s k = okB (s[k].toNat : Int)) := okAt_lt hlt
      generalize (s[k].toNat : Int) = c at hb hb0 H ⊢
      rcases ways c hb0 hb with ⟨ho, hw⟩ | ⟨ho, hw⟩
      · have HO : Hid (okAt s k = true) := H.out.trans ho
        clear H ho
        rcases hw with h | h | h | h
        · obtain ⟨h1, h2⟩ := h
          refine (dig_t c ⟨h1, h2⟩ w).mono ?_
          rintro e w' ⟨rfl, rfl⟩
          go_wp2_with fail
          go_round
          case rel => exact ⟨k + 1, by go_num, by omega, HR.out.step HO.out⟩
          case measure => simp [intOf]; omega
        · obtain ⟨h1, h2⟩ := h
          refine (dig_f c hb0 hb (by omega) w).mono ?_
          rintro e w' ⟨rfl, rfl⟩
          go_wp2_with fail
          refine (let_t c (by omega) w).mono ?_
          rintro e w' ⟨rfl, rfl⟩
          go_wp2_with fail
          go_round
          case rel => exact ⟨k + 1, by go_num, by omega, HR.out.step HO.out⟩
          case measure => simp [intOf]; omega
        · obtain ⟨h1, h2⟩ := h
          refine (dig_f c hb0 hb (by omega) w).mono ?_
          rintro e w' ⟨rfl, rfl⟩
          go_wp2_with fail
          refine (let_t c (by omega) w).mono ?_
          rintro e w' ⟨rfl, rfl⟩
          go_wp2_with fail
          go_round
          case rel => exact ⟨k + 1, by go_num, by omega, HR.out.step HO.out⟩
          case measure => simp [intOf]; omega
        · refine (dig_f c hb0 hb (by omega) w).mono ?_
          rintro e w' ⟨rfl, rfl⟩
          go_wp2_with fail
          refine (let_f c hb0 hb (by omega) w).mono ?_
          rintro e w' ⟨rfl, rfl⟩
          rcases h with rfl | rfl | rfl | rfl
          all_goals
            go_wp2_with fail
            go_round
            case rel => exact ⟨k + 1, by go_num, by omega, HR.out.step HO.out⟩
            case measure => simp [intOf]; omega
      · have HO : Hid (okAt s k = false) := H.out.trans ho
        clear H ho
        refine (dig_f c hb0 hb (by omega) w).mono ?_
        rintro e w' ⟨rfl, rfl⟩
        go_wp2_with fail
        refine (let_f c hb0 hb (by omega) w).mono ?_
        rintro e w' ⟨rfl, rfl⟩
        have n1 : (c != 43) = true := by simp; omega
        have n2 : (c != 45) = true := by simp; omega
        have n3 : (c != 46) = true := by simp; omega
        have n4 : (c != 95) = true := by simp; omega
        clear hw
        go_wp2_with fail
        go_ret
        exact ⟨k, rfl, HR.out.stop HO.out, rfl⟩
    · go_wp2_with fail
      go_ret
      exact ⟨k, rfl, HR.out.stop (okAt_ge hlt), rfl⟩
end Go.Proofs.Ybulkdgpi
