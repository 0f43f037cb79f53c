import Derived.Test.YbulkdgpwCEnd
namespace Go.Proofs.Ybulkdgpw
open Go.ChangeShapes Go.WideShapes Go.ChangeAt Go.RowKit Go.Maps
set_option linter.unusedVariables false
attribute [local go_sem] neq64

noncomputable def cR : Code → Code | .seq _ b => b | c => c
noncomputable def cL : Code → Code | .seq a _ => a | c => c
noncomputable def cB : Code → Code | .block _ c => c | c => c
noncomputable def bodyOf : Option Code → Code | some c => c | none => .skip
/-- What the law's function runs behind its first loop; its check's loop; its end. -/
noncomputable def rest5 : Code := cR (cR (cR (cR (cR (cR (bodyOf Yba.f5.body))))))
noncomputable def loop3 : Code := cB (cR (cL (cR rest5)))
noncomputable def retC : Code := cR (cR rest5)

set_option maxHeartbeats 6400000 in
set_option maxRecDepth 1000000 in
/-- The check, from the loop over the heaps on. -/
theorem tail3 (w wr : World) (a am ah : Option Addr) (n cap k nH cH nM cM N : Nat) (V : Int → Value) (rh : Int → Nat) (hs : List Int) (Mb : List BG) (Mm : List MG) (u2 u7 u8 u9 u10 u11 u12 u13 u30 u31 u32 u33 u34 u35 u36 u37 u38 u39 u40 u41 u42 u43 u44 u45 u46 u47 u48 u49 u50 u51 u52 u53 u54 u55 u56 u57 u58 u59 u60 u61 u62 u63 u64 u65 u66 u67 u68 u69 u70 u71 u72 u73 u74 u75 u76 u77 u78 u79 u80 u81 u82 u83 u84 u85 u86 u87 u88 u89 u90 u91 u92 u93 u94 u95 u96 u97 u98 u99 u100 u101 u102 u103 u104 u105 u106 u107 u108 u109 u110 u111 u112 u113 u114 u115 u116 u117 u118 u119 u120 u121 u122 u123 u124 u125 u126 u127 u128 u129 u130 u131 u132 u133 u134 u135 u136 u137 u138 u139 u140 u141 u142 u143 u144 u145 u146 u147 u148 u149 u150 u151 u152 u153 u154 u155 u156 u157 u158 u159 u160 u161 u162 u163 u164 u165 u166 u167 u168 u169 u170 : Value) (K : Act → World → Prop)
    (hK : ∀ a W, Code.wp Yba.prog retC (bodyPost Yba.prog Yba.f5 fun e w' => e = .returned (.bool true) ∧ Below w.heap.size w w') a W → K a W)
    (HE0 : Hid (EInv w wr w.heap.size N V rh hs Mb Mm am ah cM cH)) (HnM : Hid (Mm.length = nM)) (HnH : Hid (hs.length = nH)) (hnM1 : nM ≤ 1024) (hnH1 : nH ≤ 1024) :
    Code.wp Yba.prog loop3 (Exit.inBlock 4 (Exit.then K (bodyPost Yba.prog Yba.f5 fun e w' => e = .returned (.bool true) ∧ Below w.heap.size w w'))) { tmps := List.toArray (Value.slice a n cap :: undef :: u2 :: Value.map (some w.heap.size) :: Value.slice ah nH cH :: Value.slice am nM cM :: undef :: u7 :: u8 :: u9 :: u10 :: u11 :: u12 :: u13 :: undef :: undef :: undef :: undef :: undef :: undef :: undef :: undef :: Value.slice a n cap :: Value.int IntKind.i64 ↑n :: Value.bool false :: Value.map (some w.heap.size) :: Value.slice a n cap :: Value.int IntKind.i64 ↑n :: Value.int IntKind.i64 ↑k :: Value.bool false :: u30 :: u31 :: u32 :: u33 :: u34 :: u35 :: u36 :: u37 :: u38 :: u39 :: u40 :: u41 :: u42 :: u43 :: u44 :: u45 :: u46 :: u47 :: u48 :: u49 :: u50 :: u51 :: u52 :: u53 :: u54 :: u55 :: u56 :: u57 :: u58 :: u59 :: u60 :: u61 :: u62 :: u63 :: u64 :: u65 :: u66 :: u67 :: u68 :: u69 :: u70 :: u71 :: u72 :: u73 :: u74 :: u75 :: u76 :: u77 :: u78 :: u79 :: u80 :: u81 :: u82 :: u83 :: u84 :: u85 :: u86 :: u87 :: u88 :: u89 :: u90 :: u91 :: u92 :: u93 :: u94 :: u95 :: u96 :: u97 :: u98 :: u99 :: u100 :: u101 :: u102 :: u103 :: u104 :: u105 :: u106 :: u107 :: u108 :: u109 :: u110 :: u111 :: u112 :: u113 :: u114 :: u115 :: u116 :: u117 :: u118 :: u119 :: u120 :: u121 :: u122 :: u123 :: u124 :: u125 :: u126 :: u127 :: u128 :: u129 :: u130 :: u131 :: u132 :: u133 :: u134 :: u135 :: u136 :: u137 :: u138 :: u139 :: u140 :: u141 :: u142 :: u143 :: u144 :: u145 :: u146 :: u147 :: u148 :: u149 :: u150 :: u151 :: u152 :: u153 :: u154 :: u155 :: u156 :: u157 :: u158 :: u159 :: u160 :: u161 :: u162 :: u163 :: u164 :: u165 :: u166 :: u167 :: u168 :: u169 :: u170 :: Value.map (some w.heap.size) :: Value.int IntKind.i64 ↑nH :: Value.slice ah nH cH :: Value.int IntKind.i64 ↑nH :: Value.bool false :: Value.slice ah nH cH :: Value.int IntKind.i64 ↑nH :: Value.int IntKind.i64 0 :: undef :: undef :: undef :: undef :: undef :: undef :: undef :: undef :: undef :: undef :: undef :: undef :: undef :: undef :: undef :: undef :: undef :: undef :: undef :: undef :: undef :: undef :: undef :: undef :: undef :: undef :: undef :: undef :: undef :: undef :: undef :: undef :: undef :: undef :: undef :: undef :: undef :: undef :: undef :: undef :: undef :: undef :: undef :: undef :: undef :: undef :: undef :: undef :: undef :: undef :: undef :: undef :: undef :: undef :: undef :: undef :: undef :: undef :: undef :: undef :: undef :: undef :: undef :: undef :: undef :: undef :: undef :: undef :: undef :: undef :: undef :: undef :: undef :: undef :: undef :: undef :: undef :: undef :: undef :: undef :: undef :: undef :: undef :: undef :: undef :: undef :: undef :: undef :: undef :: undef :: undef :: undef :: undef :: undef :: undef :: undef :: undef :: undef :: undef :: []), defers := [] } wr := by
  have HML : Hid (Mb.length = nM) := HE0.out.len.trans HnM.out
  have hnil := fun (W : World) => run_neq_slice_nil_any (P := Yba.prog) W 80 21 none 0 0 0 0 Yba.underlying80
  conv at hK in retC => simp only [retC, rest5, Yba.f5, bodyOf, cR, cL, cB]
  conv in loop3 => simp only [loop3, rest5, Yba.f5, bodyOf, cR, cL, cB]
  go_loopw [178] (fun t W => ∃ i : Nat, i ≤ nH ∧ t = .int .i64 i ∧ Hid (EInv w W w.heap.size N V rh hs Mb Mm am ah cM cH)) (fun t _ => nH - (intOf t).toNat)
  case atStart => exact ⟨0, Nat.zero_le _, rfl, HE0⟩
  case round =>
    obtain ⟨i, hi, rfl, HE⟩ := hrel
    clear HE0
    by_cases hil : i < nH
    · obtain ⟨bH, rfl, -, -, hc⟩ := HE.out.hi.cells (by have := HnH.out; omega)
      have hci := hc i (by have := HnH.out; omega)
      clear hc
      have hmem : hs.getD i 0 ∈ hs := by
        have : i < hs.length := by have := HnH.out; omega
        simp [List.getD, this]
      obtain ⟨h, hh⟩ : ∃ h, h = hs.getD i 0 := ⟨_, rfl⟩
      rw [← hh] at hci hmem
      have HM : Hid (h ∈ hs) := hmem
      obtain ⟨cap1, hV, -⟩ := HE.out.bi.row h hmem
      obtain ⟨L, hL⟩ : ∃ L, L = (fil Mb h).length := ⟨_, rfl⟩
      obtain ⟨R, hR⟩ : ∃ R, R = rh h := ⟨_, rfl⟩
      have hlk := HE.out.bi.mp.look_ok (HE.out.bi.hsok h hmem)
      rw [hV, ← hL, ← hR, decide_eq_true hmem] at hlk
      have HL : Hid (L = (fil Mb h).length) := hL
      have HR : Hid (R = rh h) := hR
      have hL1 : L ≤ 1024 := by have h1 := fil_le Mb h; have h2 := HML.out; omega
      have hin : (i : Int) < (nH : Int) := by omega
      clear hh hmem hV hL hR
      go_wp2_with fail
      go_loopw [18, 19] (fun vn vj W => ∃ j c : Nat, j ≤ nM ∧ vn = .int .i64 c ∧ vj = .int .i64 j ∧ Hid (c = cnt Mb j h) ∧ Hid (EInv w W w.heap.size N V rh hs Mb Mm am (some ⟨bH, 0, none⟩) cM cH)) (fun _ vj _ => nM - (intOf vj).toNat)
      case atStart => exact ⟨0, 0, Nat.zero_le _, rfl, rfl, rfl, HE⟩
      case round =>
        obtain ⟨j, c, hj, rfl, rfl, HCn, HE1⟩ := hrel
        clear HE hlk hci
        have hcL : c ≤ L := by rw [HCn.out, HL.out]; exact cnt_le _ _ _
        by_cases hjn : j < nM
        · obtain ⟨x, hx⟩ : ∃ x, Mm[j]? = some x := ⟨Mm[j]'(by have := HnM.out; omega), by rw [List.getElem?_eq_getElem]⟩
          obtain ⟨bM, eb, -, x0, -, -, -, -, -⟩ := HE1.out.mi.cells hx
          subst eb
          have HX : Hid (Mm[j]? = some x) := hx
          clear hx
          have hjn' : (j : Int) < (nM : Int) := by omega
          cases hxh : (x.h == h)
          · go_wp2_with fail
            go_roundw
            case rel => exact ⟨j + 1, c, by omega, rfl, by go_num, HCn.out.trans (HE1.out.skip HX.out hxh).symm, HE1⟩
            case measure => simp [intOf]; omega
          · obtain ⟨p, u, cc, u', cc', ln, gr, lt, hln, hT, hrow⟩ := HE1.out.turn HX.out
            obtain ⟨hr, hc1, hc2⟩ := hrow h hxh HM.out
            rw [← HCn.out] at hr hc1 hc2
            rw [← HL.out] at hc2
            rw [← HR.out] at hr
            have hcL' : ¬ ((c : Int) ≥ (L : Int)) := by omega
            have hcL2 : (c : Int) < (L : Int) := by omega
            have HT : Hid (TurnAt _ bM j p u cc u' cc' ln gr lt) := hT
            have HC1 : Hid (cnt Mb (j + 1) h = c + 1) := hc1
            obtain ⟨y3, y4, p0, p1, p2, -⟩ := hT
            clear hrow hc1
            go_wp2_with fail
            go_quiet (fail)
            obtain ⟨W2, hW2⟩ : ∃ W2, W2 = wr.drewN nq := ⟨_, rfl⟩
            rw [← hW2]
            have HE2 : Hid (EInv w W2 w.heap.size N V rh hs Mb Mm (some ⟨bM, 0, none⟩) (some ⟨bH, 0, none⟩) cM cH) := by rw [hW2]; exact HE1.out.fr ((Fr.refl _ _).drewN nq)
            have HT2 : Hid (TurnAt W2 bM j p u cc u' cc' ln gr lt) := by rw [hW2]; exact HT.out.drewN nq
            clear hW2 HE1 HT y3 y4 p0 p1 p2 hr x0
            obtain ⟨y3, y4, p0, p1, p2, -⟩ := HT2.out
            go_wp2_with fail
            go_loopw [21] (fun vt W => ∃ t : Nat, t ≤ ln ∧ vt = .int .i64 t ∧ Hid (EInv w W w.heap.size N V rh hs Mb Mm (some ⟨bM, 0, none⟩) (some ⟨bH, 0, none⟩) cM cH) ∧ Hid (TurnAt W bM j p u cc u' cc' ln gr lt)) (fun vt _ => ln - (intOf vt).toNat)
            case atStart => exact ⟨0, Nat.zero_le _, rfl, HE2, HT2⟩
            case round =>
              obtain ⟨t, ht, rfl, HE3, HT3⟩ := hrel
              clear HE2 HT2 y3 y4 p0 p1 p2
              obtain ⟨y3, y4, p0, p1, p2, hlk3⟩ := HT3.out
              by_cases htl : t < ln
              · obtain ⟨z1, z2⟩ := hlk3 t htl
                have htl' : (t : Int) < (ln : Int) := by omega
                generalize lt t = qq at z1 z2
                clear hlk3
                go_wp2_with fail
                go_quiet (fail)
                go_wp2_with fail
                go_roundw
                case rel => exact ⟨t + 1, by omega, by go_num, HE3.out.fr ((Fr.refl _ _).drewN nq), HT3.out.drewN nq⟩
                case measure => simp [intOf]; omega
              · have htl' : ¬ ((t : Int) < (ln : Int)) := by omega
                clear hlk3
                go_wp2_with fail
                go_roundw
                case rel => exact ⟨j + 1, c + 1, by omega, by go_num, by go_num, HC1.out.symm, HE3⟩
                case measure => simp [intOf]; omega
        · obtain rfl : j = nM := by omega
          obtain rfl : c = L := by rw [HCn.out, HL.out, ← HML.out]; exact cnt_full _ _
          go_wp2_with fail
          go_roundw
          case rel => exact ⟨i + 1, by omega, by go_num, HE1⟩
          case measure => simp [intOf]; omega
    · have hin : ¬ ((i : Int) < (nH : Int)) := by omega
      go_wp2_with fail
      go_ret
      exact ⟨rfl, HE.out.below⟩
end Go.Proofs.Ybulkdgpw
