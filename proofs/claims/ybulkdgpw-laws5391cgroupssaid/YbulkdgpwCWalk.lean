import Derived.Test.YbulkdgpwCTail
namespace Go.Proofs.Ybulkdgpw
open Go.ChangeShapes Go.WideShapes Go.ChangeAt Go.RowKit Go.Maps
set_option linter.unusedVariables false
attribute [local go_sem] neq64

set_option maxRecDepth 1000000 in
theorem groups_long (a : Option Addr) (n cap : Nat) (w : World) (h : 1024 < n) :
    Calls Yba.prog 5 #[.slice a n cap] w fun e w' => e = .returned (.bool true) ∧ Below w.heap.size w w' := by
  have h' : (1024 : Int) < (n : Int) := by omega
  go_enter Yba.func5, Yba.ntmps5
  go_wp2_with fail
  go_ret
  exact ⟨rfl, Below.refl _ _⟩

set_option maxHeartbeats 6400000 in
set_option maxRecDepth 1000000 in
theorem groups_main (a : Option Addr) (n cap : Nat) (sa sb sc : Nat → Int) (sd : Nat → Bool) (w : World) (hS : StepsAt w a n sa sb sc sd) (hn : n ≤ 1024) :
    Calls Yba.prog 5 #[.slice a n cap] w fun e w' => e = .returned (.bool true) ∧ Below w.heap.size w w' := by
  have hmm := @run_makeMap Yba.prog
  have hn' : ¬ (1024 : Int) < (n : Int) := by omega
  go_enter Yba.func5, Yba.ntmps5
  go_wp2_with fail
  go_loopw [4, 5, 28] (fun vH vM t wr => ∃ (k : Nat) (hs : List Int) (Mb : List BG) (Mm : List MG) (am ah : Option Addr) (cM cH nM nH : Nat), k ≤ n ∧ t = .int .i64 k ∧ vM = .slice am nM cM ∧ vH = .slice ah nH cH ∧ Hid (CInv w wr w.heap.size k hs Mb Mm am ah cM cH ∧ Mm.length = nM ∧ hs.length = nH)) (fun _ _ t _ => n - (intOf t).toNat)
  case atStart =>
    refine ⟨0, [], [], [], none, none, 0, 0, 0, 0, Nat.zero_le _, rfl, rfl, rfl, ?_⟩
    exact ⟨⟨⟨0, _, fun _ => 0, Nat.le_refl _, ⟨MapIs.made w, Nat.le_refl _, by simp, by simp, fun _ _ => rfl, by simp, by simp, by simp, by simp, by simp, by simp⟩⟩, ⟨World.ownsRow_nil _ _ _ _, by simp, by simp, by simp⟩, ⟨World.ownsRow_nil _ _ _ _⟩, rfl, by simp, (Below.refl _ _).alloc (Nat.le_refl _) _, by simp, by simp, by simp, by simp⟩, rfl, rfl⟩
  case round =>
    obtain ⟨k, hs, Mb, Mm, am, ah, cM, cH, nM, nH, hk, rfl, rfl, rfl, HJ⟩ := hrel
    have HI : Hid (CInv w wr w.heap.size k hs Mb Mm am ah cM cH) := HJ.out.1
    have HnM : Hid (Mm.length = nM) := HJ.out.2.1
    have HnH : Hid (hs.length = nH) := HJ.out.2.2
    clear HJ
    clear hmm
    have hnM1 : nM ≤ 1024 := by have h1 := HnM.out; have h2 := HI.out.len; have h3 := congrArg List.length HI.out.same; simp at h3; omega
    have hnH1 : nH ≤ 1024 := by have h1 := HnH.out; have h2 := HI.out.hl; omega
    by_cases hlt : k < n
    · obtain ⟨b, off, rfl, hbl, hcell⟩ := hS.at_ (by omega)
      obtain ⟨q0, q1, q2, q3⟩ := hcell k hlt
      have hbel := HI.out.below
      have r0 := (hbel.cell (p := ⟨b, off + k * 4, none⟩) hbl).trans q0
      have r1 := (hbel.cell (p := ⟨b, off + k * 4 + 1, none⟩) hbl).trans q1
      have r2 := (hbel.cell (p := ⟨b, off + k * 4 + 2, none⟩) hbl).trans q2
      have r3 := (hbel.cell (p := ⟨b, off + k * 4 + 3, none⟩) hbl).trans q3
      have hbd := hS.bd k
      generalize sa k = xa at r0 hbd
      generalize sb k = xb at r1 hbd
      generalize sc k = xc at r2 hbd
      generalize sd k = xd at r3
      obtain ⟨b0, b1, b2, b3, b4, b5⟩ := hbd
      clear q0 q1 q2 q3 hcell hbel
      obtain ⟨h, hh⟩ : ∃ h, xa % 5 = h := ⟨_, rfl⟩
      obtain ⟨m, hm⟩ : ∃ m, xb % 3 = m := ⟨_, rfl⟩
      obtain ⟨kk, hkk⟩ : ∃ kk, xc % 3 = kk := ⟨_, rfl⟩
      have hok : okH h := by constructor <;> omega
      have hnil := fun (W : World) => run_neq_slice_nil_any (P := Yba.prog) W 53 5 none 0 0 0 0 Yba.underlying53
      rcases split_first (mtM h m kk) Mm with ⟨A, g, Bs, rfl, hg, hA⟩ | hA
      · have HC0 := add_step_found w wr w.heap.size k hs Mb A Bs g am ah cM cH xa xb xc h m kk xd HI.out (by omega) hg hA hok
        have HG : Hid (mtM h m kk g = true) := hg
        have HA : Hid (∀ x ∈ A, mtM h m kk x = false) := hA
        have HGB : Hid (g.ls.length ≤ k ∧ g.gr ≤ k ∧ 0 ≤ g.gr) := HI.out.bound (by simp)
        clear hg hA
        go_wp2_with fail
        refine HC0.mono ?_
        rintro e w1 ⟨rfl, Mb', hC, hsame⟩
        have HC : Hid (CMid w w1 w.heap.size k hs hs Mb' (A ++ g :: Bs) am ah cM cH wr.heap.size (wr.heap.size + 1) xa xb xc m kk xd) := hC
        have HS : Hid (Mb'.map BG.key = A.map MG.key ++ (g.h, g.m, g.k, g.gr + (if xd then 0 else 1), g.ls ++ [wr.heap.size + 1]) :: Bs.map MG.key) := hsame
        have l0 : w1.cell? ⟨wr.heap.size + 1, 0, none⟩ = some (.pointer none) := cellOf hC.lock rfl
        have l1 : w1.cell? ⟨wr.heap.size + 1, 1, none⟩ = some (.pointer none) := cellOf hC.lock rfl
        have l4 : w1.cell? ⟨wr.heap.size + 1, 4, none⟩ = some (.slice none 0 0) := cellOf hC.lock rfl
        have l7 : w1.cell? ⟨wr.heap.size + 1, 7, none⟩ = some (.int .u8 m) := cellOf hC.lock rfl
        have l8 : w1.cell? ⟨wr.heap.size + 1, 8, none⟩ = some (.int .u8 kk) := cellOf hC.lock rfl
        have l9 : w1.cell? ⟨wr.heap.size + 1, 9, none⟩ = some (.bool xd) := cellOf hC.lock rfl
        have s3 : w1.cell? ⟨wr.heap.size, 3, none⟩ = some (.bool xd) := cellOf hC.step rfl
        clear hC hsame HC0 r0 r1 r2 r3
        go_wp2_with fail
        go_quiet (fail)
        obtain ⟨W2, hW2⟩ : ∃ W2, W2 = w1.drewN nq := ⟨_, rfl⟩
        rw [← hW2]
        have HC2 : Hid (CMid w W2 w.heap.size k hs hs Mb' (A ++ g :: Bs) am ah cM cH wr.heap.size (wr.heap.size + 1) xa xb xc m kk xd) := by rw [hW2]; exact HC.out.move ((Fr.refl _ w1).drewN nq)
        clear hW2 l0 l1 l4 l7 l8 l9 s3 HC hnil hh hm hkk
        have hgat : (A ++ g :: Bs)[A.length]? = some g := by simp
        obtain ⟨bM, rfl, ⟨cbm, hcbm⟩, g0, g1, g2, g3, g4, gfz⟩ := HC2.out.mi.cells hgat
        have hAn : A.length < nM := by have := HnM.out; simp at this; omega
        have hAn' : (A.length : Int) < (nM : Int) := by omega
        have hgm : (g.h == h) = true ∧ (g.m == m) = true ∧ (g.k == kk) = true := by have := HG.out; simp [mtM, and_assoc] at this; simpa using this
        obtain ⟨hgm1, hgm2, hgm3⟩ := hgm
        obtain ⟨i0, hi0⟩ : ∃ i0, InfC 64 i0 (.pointer none) 1 8 := info_parts info64
        obtain ⟨z, hz⟩ : ∃ z, z = A.length := ⟨_, rfl⟩
        rw [← hz] at g0 g1 g2 g3 g4 hAn hAn'
        have HZ : Hid (z = A.length) := hz
        have HCB : Hid (W2.heap[bM]? = some (.cells cbm 75 (0, 0))) := hcbm
        clear hz hgat hcbm
        go_wp2_with fail
        go_loop [12, 13] (fun fd t => ∃ j : Nat, fd = .int .i64 (-1) ∧ t = .int .i64 j ∧ j ≤ z) (fun _ t => z + 1 - (intOf t).toNat)
        case atStart => exact ⟨0, rfl, rfl, Nat.zero_le _⟩
        case round =>
          obtain ⟨j, rfl, rfl, hj⟩ := hrel
          by_cases hjz : j < z
          · obtain ⟨x, hx⟩ : ∃ x, A[j]? = some x := ⟨A[j]'(by have := HZ.out; omega), by rw [List.getElem?_eq_getElem]⟩
            have hxm := HA.out x (List.mem_of_getElem? hx)
            have hxat : (A ++ g :: Bs)[j]? = some x := by rw [List.getElem?_append_left (by have := HZ.out; omega)]; exact hx
            obtain ⟨b', eb, _, x0, x1, x2, _, _, _⟩ := HC2.out.mi.cells hxat
            cases eb
            have hjn : (j : Int) < (nM : Int) := by omega
            clear hx hxat g0 g1 g2 g3 g4
            have hcases : (x.h == h) = false ∨ ((x.h == h) = true ∧ (x.m == m) = false) ∨ ((x.h == h) = true ∧ (x.m == m) = true ∧ (x.k == kk) = false) := by
              cases e1 : (x.h == h)
              · exact Or.inl rfl
              · cases e2 : (x.m == m)
                · exact Or.inr (Or.inl ⟨rfl, rfl⟩)
                · cases e3 : (x.k == kk)
                  · exact Or.inr (Or.inr ⟨rfl, rfl, rfl⟩)
                  · simp [mtM, e1, e2, e3] at hxm
            clear hxm
            rcases hcases with e1 | ⟨e1, e2⟩ | ⟨e1, e2, e3⟩
            all_goals
              go_wp2_with fail
              go_round
              case rel => exact ⟨j + 1, rfl, by go_num, by omega⟩
              case measure => simp [intOf]; omega
          · obtain rfl : j = z := by omega
            clear hj hjz
            have hgM : g ∈ A ++ g :: Bs := by simp
            have hws := HC2.out.size
            have hgl := HGB.out.1
            have hgr1 := HGB.out.2.1
            have hgr0 := HGB.out.2.2
            have hwrb : wr.heap.size ≠ bM := by
              have h1 := HC2.out.step
              exact ne_of_ty h1 HCB.out (by decide)
            have hbu : bM ≠ g.u := by
              obtain ⟨cu, hcu⟩ := rowBlock (HC2.out.mi.grp g hgM)
              exact ne_of_ty HCB.out hcu (by decide)
            go_wp2_with (at_builtin; go_must (refine wpList_append_lies _ rfl _ _ 73 rfl w.heap.size 64 i0 (.pointer none) 1 8 Yba.underlying73 hi0.out.1 hi0.out.2.1 hi0.out.2.2.1 hi0.out.2.2.2 rfl (by decide) _ _ _ rfl ((HC2.out.mi.grp g hgM).alloc _) ⟨W2.heap.size, 0, none⟩ 1 1 [ptrTo (wr.heap.size + 1)] rfl rfl (cell_one_new W2 (ptrTo (wr.heap.size + 1)) 64) (by simp [Value.oneCell']) (by decide) (by unfold maxLen; omega) (by omega) (by simp; omega) _ rfl ?cb1))
            intro gg cap' w3 hown3 hgrow hat _
            have hcb3 : w3.heap[bM]? = some (.cells cbm 75 (0, 0)) := (hgrow.block bM (by have := ltOf HCB.out; simp; omega) (by simpa [Value.ownBlock] using hbu)).trans ((Below.heap_alloc _ _ _ (ltOf HCB.out)).trans HCB.out)
            have hat' : gg = g.u ∨ W2.heap.size ≤ gg := by
              rcases hat with e | e
              · exact Or.inl (by simpa [Value.ownBlock] using e.symm)
              · exact Or.inr (by omega)
            obtain ⟨F1, F2, F3, F4, F5⟩ := finish_found HC2.out (by omega) HGB.out hgrow hat' hown3 HS.out
            rw [← HZ.out] at F1 F2 F3 F4 F5
            have hst3 := cellOf (o := 3) (v := .bool xd) F3 rfl
            have hfz3 : w3.frozen? ⟨bM, j * 5 + 3, none⟩ = false := thawOf hcb3
            have hc3 : w3.cell? ⟨bM, j * 5 + 3, none⟩ = some (sliceOf g.u g.ls.length g.c) := by
              have h1 : w3.heap[bM]? = W2.heap[bM]? := hcb3.trans HCB.out.symm
              rw [← g3]; simp [World.cell?, h1]
            clear hcb3 hown3 hgrow hat hat' g0 g1 g2 g3 g4 F3
            cases xd
            · have F := F2.out rfl
              have HF : Hid (CInv w ((w3.setCell ⟨bM, j * 5 + 3, none⟩ (sliceOf gg (g.ls.length + 1) cap')).setCell ⟨bM, j * 5 + 4, none⟩ (.int .i64 (g.gr + 1))) w.heap.size (k + 1) hs Mb' (A ++ (g.plus (wr.heap.size + 1) gg cap').grant (g.gr + 1) :: Bs) (some ⟨bM, 0, none⟩) ah cM cH) := F
              clear F F1 F2
              go_wp2_with fail
              go_roundw
              case rel => exact ⟨k + 1, hs, Mb', _, _, ah, cM, cH, nM, nH, by omega, by go_num, rfl, rfl, ⟨HF.out, by have := HnM.out; simpa using this, HnH.out⟩⟩
              case measure => simp [intOf]; omega
            · have HF : Hid (CInv w (w3.setCell ⟨bM, j * 5 + 3, none⟩ (sliceOf gg (g.ls.length + 1) cap')) w.heap.size (k + 1) hs Mb' (A ++ g.plus (wr.heap.size + 1) gg cap' :: Bs) (some ⟨bM, 0, none⟩) ah cM cH) := F1.out rfl
              clear F1 F2
              go_wp2_with fail
              go_roundw
              case rel => exact ⟨k + 1, hs, Mb', _, _, ah, cM, cH, nM, nH, by omega, by go_num, rfl, rfl, ⟨HF.out, by have := HnM.out; simpa using this, HnH.out⟩⟩
              case measure => simp [intOf]; omega
      · have HC0 := add_step_new w wr w.heap.size k hs Mb Mm am ah cM cH xa xb xc h m kk xd HI.out (by omega) hA hok
        have HA : Hid (∀ x ∈ Mm, mtM h m kk x = false) := hA
        clear hA
        go_wp2_with fail
        refine HC0.mono ?_
        rintro e w1 ⟨rfl, Mb', hC, hsame⟩
        have HC : Hid (CMid w w1 w.heap.size k hs (addTo hs h) Mb' Mm am ah cM cH wr.heap.size (wr.heap.size + 1) xa xb xc m kk xd) := hC
        have HS : Hid (Mb'.map BG.key = Mm.map MG.key ++ [(h, m, kk, (if xd then 0 else 1), [wr.heap.size + 1])]) := hsame
        have l0 : w1.cell? ⟨wr.heap.size + 1, 0, none⟩ = some (.pointer none) := cellOf hC.lock rfl
        have l1 : w1.cell? ⟨wr.heap.size + 1, 1, none⟩ = some (.pointer none) := cellOf hC.lock rfl
        have l4 : w1.cell? ⟨wr.heap.size + 1, 4, none⟩ = some (.slice none 0 0) := cellOf hC.lock rfl
        have l7 : w1.cell? ⟨wr.heap.size + 1, 7, none⟩ = some (.int .u8 m) := cellOf hC.lock rfl
        have l8 : w1.cell? ⟨wr.heap.size + 1, 8, none⟩ = some (.int .u8 kk) := cellOf hC.lock rfl
        have l9 : w1.cell? ⟨wr.heap.size + 1, 9, none⟩ = some (.bool xd) := cellOf hC.lock rfl
        have s3 : w1.cell? ⟨wr.heap.size, 3, none⟩ = some (.bool xd) := cellOf hC.step rfl
        clear hC hsame HC0 r0 r1 r2 r3
        go_wp2_with fail
        go_quiet (fail)
        obtain ⟨W2, hW2⟩ : ∃ W2, W2 = w1.drewN nq := ⟨_, rfl⟩
        rw [← hW2]
        have HC2 : Hid (CMid w W2 w.heap.size k hs (addTo hs h) Mb' Mm am ah cM cH wr.heap.size (wr.heap.size + 1) xa xb xc m kk xd) := by rw [hW2]; exact HC.out.move ((Fr.refl _ w1).drewN nq)
        clear hW2 l0 l1 l4 l7 l8 l9 s3 HC hnil hh hm hkk
        obtain ⟨i0, hi0⟩ : ∃ i0, InfC 64 i0 (.pointer none) 1 8 := info_parts info64
        obtain ⟨i5, hi5⟩ : ∃ i0, InfC 75 i0 zero75 5 40 := info_parts info75
        obtain ⟨i9, hi9⟩ : ∃ i0, InfC 59 i0 (.int .u16 0) 1 2 := info_parts info59
        go_wp2_with fail
        go_loop [12, 13] (fun fd t => ∃ j : Nat, fd = .int .i64 (-1) ∧ t = .int .i64 j ∧ j ≤ nM) (fun _ t => nM - (intOf t).toNat)
        case atStart => exact ⟨0, rfl, rfl, Nat.zero_le _⟩
        case round =>
          obtain ⟨j, rfl, rfl, hj⟩ := hrel
          by_cases hjz : j < nM
          · obtain ⟨x, hxat⟩ : ∃ x, Mm[j]? = some x := ⟨Mm[j]'(by have := HnM.out; omega), by rw [List.getElem?_eq_getElem]⟩
            have hxm := HA.out x (List.mem_of_getElem? hxat)
            obtain ⟨b', eb, _, x0, x1, x2, _, _, _⟩ := HC2.out.mi.cells hxat
            subst eb
            have hjn : (j : Int) < (nM : Int) := by omega
            clear hxat
            have hcases : (x.h == h) = false ∨ ((x.h == h) = true ∧ (x.m == m) = false) ∨ ((x.h == h) = true ∧ (x.m == m) = true ∧ (x.k == kk) = false) := by
              cases e1 : (x.h == h)
              · exact Or.inl rfl
              · cases e2 : (x.m == m)
                · exact Or.inr (Or.inl ⟨rfl, rfl⟩)
                · cases e3 : (x.k == kk)
                  · exact Or.inr (Or.inr ⟨rfl, rfl, rfl⟩)
                  · simp [mtM, e1, e2, e3] at hxm
            clear hxm
            rcases hcases with e1 | ⟨e1, e2⟩ | ⟨e1, e2, e3⟩
            all_goals
              go_wp2_with fail
              go_round
              case rel => exact ⟨j + 1, rfl, by go_num, by omega⟩
              case measure => simp [intOf]; omega
          · obtain rfl : j = nM := by omega
            clear hj hjz
            have hws := HC2.out.size
            have hMI := HC2.out.mi.own
            rw [HnM.out] at hMI
            have HMO : Hid (W2.ownsRow w.heap.size 75 5 (.slice am j cM) j (Mm.flatMap mcells)) := hMI
            clear hMI
            go_wp2_with (at_builtin; go_must (refine wpList_append_lies _ rfl _ _ 58 rfl w.heap.size 75 i5 zero75 5 40 Yba.underlying58 hi5.out.1 hi5.out.2.1 hi5.out.2.2.1 hi5.out.2.2.2 rfl (by decide) _ _ _ rfl (HMO.out.alloc _) ⟨W2.heap.size, 0, none⟩ 1 1 [.int .u16 h, .int .u8 m, .int .u8 kk, .slice none 0 0, .int .i64 0] rfl rfl (news_five W2 _ _ _ _ _ 75) (by simp [Value.oneCell']) (by decide) (by unfold maxLen; omega) (by omega) (by simp; omega) _ rfl ?cb2))
            intro bM cM3 w3 hown3 hgrow hat hlt3
            have HP : Hid (NewA w W2 w3 w.heap.size k bM cM3 hs hs Mb' Mm ah cH wr.heap.size (wr.heap.size + 1) xa xb xc h m kk xd) := newA_start HC2.out (by rw [HnM.out]; exact hgrow) (by rw [HnM.out]; exact hown3)
            clear hown3 hgrow hat HMO
            go_wp2_with fail
            refine (has9 hs h ah nH cH w.heap.size w3 HnH (by omega) HP.out.hi).mono ?_
            rintro e w' ⟨rfl, rfl⟩
            cases hin : inH hs h
            · have hadd : addTo hs h = hs ++ [h] := by
                have : h ∉ hs := by unfold inH at hin; simpa using hin
                unfold addTo; rw [if_neg this]
              have HC3 : Hid (CMid w W2 w.heap.size k hs (hs ++ [h]) Mb' Mm am ah cM cH wr.heap.size (wr.heap.size + 1) xa xb xc m kk xd) := by rw [← hadd]; exact HC2
              have hHI := HP.out.hi.own
              rw [HnH.out] at hHI
              have HHO : Hid (w3.ownsRow w.heap.size 59 1 (.slice ah nH cH) nH (hs.map (Value.int .u16))) := hHI
              have hws3 : w.heap.size < w3.heap.size := Nat.lt_of_lt_of_le hws HP.out.fr.size
              clear hHI hin hadd
              go_wp2_with (at_builtin; go_must (refine wpList_append_lies _ rfl _ _ 38 rfl w.heap.size 59 i9 (.int .u16 0) 1 2 Yba.underlying38 hi9.out.1 hi9.out.2.1 hi9.out.2.2.1 hi9.out.2.2.2 rfl (by decide) _ _ _ rfl (HHO.out.alloc _) ⟨w3.heap.size, 0, none⟩ 1 1 [.int .u16 h] rfl rfl (cell_one_new w3 (.int .u16 h) 59) (by simp [Value.oneCell']) (by decide) (by unfold maxLen; omega) (by omega) (by simp; omega) _ rfl ?cb3))
              intro bH cH5 w5 hown5 hgrow5 hat5 _
              have HP5 : Hid (NewA w W2 w5 w.heap.size k bM cM3 hs (hs ++ [h]) Mb' Mm (some ⟨bH, 0, none⟩) cH5 wr.heap.size (wr.heap.size + 1) xa xb xc h m kk xd) := newA_heap HP.out (by rw [HnH.out]; exact hgrow5) (by rw [HnH.out]; exact hown5)
              clear hown5 hgrow5 hat5 HHO
              obtain ⟨p3, pf, cb, hcb⟩ := HP5.out.pre.cells
              rw [HnM.out] at p3
              have HCB : Hid (w5.heap[bM]? = some (.cells cb 75 (0, 0))) := hcb
              have hws5 : w.heap.size < w5.heap.size := Nat.lt_of_lt_of_le hws HP5.out.fr.size
              have hst5 : w5.cell? ⟨wr.heap.size, 3, none⟩ = some (.bool xd) := cellOf HP5.out.step rfl
              have hwrb : wr.heap.size ≠ bM := ne_of_ty HP5.out.step hcb (by decide)
              clear hcb
              go_wp2_with (at_builtin; go_must (refine wpList_append_lies _ rfl _ _ 73 rfl w.heap.size 64 i0 (.pointer none) 1 8 Yba.underlying73 hi0.out.1 hi0.out.2.1 hi0.out.2.2.1 hi0.out.2.2.2 rfl (by decide) (.slice none 0 0) 0 [] rfl ((World.ownsRow_nil w5 w.heap.size 64 1).alloc _) ⟨w5.heap.size, 0, none⟩ 1 1 [ptrTo (wr.heap.size + 1)] rfl rfl (cell_one_new w5 (ptrTo (wr.heap.size + 1)) 64) (by simp [Value.oneCell']) (by decide) (by unfold maxLen; omega) (by omega) (by simp; omega) _ rfl ?cb4))
              intro gg cap' w6 hown6 hgrow6 hat6 _
              have hcb6 : w6.heap[bM]? = some (.cells cb 75 (0, 0)) := (hgrow6.block bM (by have := ltOf HCB.out; simp; omega) (by simp [Value.ownBlock])).trans ((Below.heap_alloc _ _ _ (ltOf HCB.out)).trans HCB.out)
              have hat6' : w5.heap.size ≤ gg := by
                rcases hat6 with e | e
                · simp [Value.ownBlock] at e
                · omega
              obtain ⟨F1, F2, F3, F4, F5⟩ := finish_new HC3.out (by omega) HP5.out hgrow6 hat6' (by simpa using hown6) HS.out
              rw [HnM.out] at F1 F2 F3 F4 F5
              have hst3 := cellOf (o := 3) (v := .bool xd) F3 rfl
              have hfz3 : w6.frozen? ⟨bM, j * 5 + 3, none⟩ = false := thawOf hcb6
              have hc3 : w6.cell? ⟨bM, j * 5 + 3, none⟩ = some (.slice none 0 0) := by
                have h1 : w6.heap[bM]? = w5.heap[bM]? := hcb6.trans HCB.out.symm
                rw [← p3]; simp [World.cell?, h1]
              clear hcb6 hown6 hgrow6 hat6 hat6' p3 F3 hst5
              cases xd
              · have HF : Hid (CInv w ((w6.setCell ⟨bM, j * 5 + 3, none⟩ (sliceOf gg 1 cap')).setCell ⟨bM, j * 5 + 4, none⟩ (.int .i64 1)) w.heap.size (k + 1) (hs ++ [h]) Mb' (Mm ++ [(⟨h, m, kk, 0, [wr.heap.size + 1], gg, cap'⟩ : MG).grant 1]) (some ⟨bM, 0, none⟩) (some ⟨bH, 0, none⟩) cM3 cH5) := F2.out rfl
                clear F1 F2
                go_wp2_with fail
                go_roundw
                case rel => exact ⟨k + 1, (hs ++ [h]), Mb', _, _, (some ⟨bH, 0, none⟩), cM3, cH5, j + 1, (nH + 1), by omega, by go_num, rfl, rfl, ⟨HF.out, by have := HnM.out; simpa using this, by have := HnH.out; simpa using this⟩⟩
                case measure => simp [intOf]; omega
              · have HF : Hid (CInv w (w6.setCell ⟨bM, j * 5 + 3, none⟩ (sliceOf gg 1 cap')) w.heap.size (k + 1) (hs ++ [h]) Mb' (Mm ++ [⟨h, m, kk, 0, [wr.heap.size + 1], gg, cap'⟩]) (some ⟨bM, 0, none⟩) (some ⟨bH, 0, none⟩) cM3 cH5) := F1.out rfl
                clear F1 F2
                go_wp2_with fail
                go_roundw
                case rel => exact ⟨k + 1, (hs ++ [h]), Mb', _, _, (some ⟨bH, 0, none⟩), cM3, cH5, j + 1, (nH + 1), by omega, by go_num, rfl, rfl, ⟨HF.out, by have := HnM.out; simpa using this, by have := HnH.out; simpa using this⟩⟩
                case measure => simp [intOf]; omega
            · have hadd : addTo hs h = hs := by
                have : h ∈ hs := by unfold inH at hin; simpa using hin
                unfold addTo; rw [if_pos this]
              have HC3 : Hid (CMid w W2 w.heap.size k hs hs Mb' Mm am ah cM cH wr.heap.size (wr.heap.size + 1) xa xb xc m kk xd) := by have := HC2.out; rw [hadd] at this; exact this
              clear hin hadd
              obtain ⟨p3, pf, cb, hcb⟩ := HP.out.pre.cells
              rw [HnM.out] at p3
              have HCB : Hid (w3.heap[bM]? = some (.cells cb 75 (0, 0))) := hcb
              have hws5 : w.heap.size < w3.heap.size := Nat.lt_of_lt_of_le hws HP.out.fr.size
              have hst5 : w3.cell? ⟨wr.heap.size, 3, none⟩ = some (.bool xd) := cellOf HP.out.step rfl
              have hwrb : wr.heap.size ≠ bM := ne_of_ty HP.out.step hcb (by decide)
              clear hcb
              go_wp2_with (at_builtin; go_must (refine wpList_append_lies _ rfl _ _ 73 rfl w.heap.size 64 i0 (.pointer none) 1 8 Yba.underlying73 hi0.out.1 hi0.out.2.1 hi0.out.2.2.1 hi0.out.2.2.2 rfl (by decide) (.slice none 0 0) 0 [] rfl ((World.ownsRow_nil w3 w.heap.size 64 1).alloc _) ⟨w3.heap.size, 0, none⟩ 1 1 [ptrTo (wr.heap.size + 1)] rfl rfl (cell_one_new w3 (ptrTo (wr.heap.size + 1)) 64) (by simp [Value.oneCell']) (by decide) (by unfold maxLen; omega) (by omega) (by simp; omega) _ rfl ?cb5))
              intro gg cap' w6 hown6 hgrow6 hat6 _
              have hcb6 : w6.heap[bM]? = some (.cells cb 75 (0, 0)) := (hgrow6.block bM (by have := ltOf HCB.out; simp; omega) (by simp [Value.ownBlock])).trans ((Below.heap_alloc _ _ _ (ltOf HCB.out)).trans HCB.out)
              have hat6' : w3.heap.size ≤ gg := by
                rcases hat6 with e | e
                · simp [Value.ownBlock] at e
                · omega
              obtain ⟨F1, F2, F3, F4, F5⟩ := finish_new HC3.out (by omega) HP.out hgrow6 hat6' (by simpa using hown6) HS.out
              rw [HnM.out] at F1 F2 F3 F4 F5
              have hst3 := cellOf (o := 3) (v := .bool xd) F3 rfl
              have hfz3 : w6.frozen? ⟨bM, j * 5 + 3, none⟩ = false := thawOf hcb6
              have hc3 : w6.cell? ⟨bM, j * 5 + 3, none⟩ = some (.slice none 0 0) := by
                have h1 : w6.heap[bM]? = w3.heap[bM]? := hcb6.trans HCB.out.symm
                rw [← p3]; simp [World.cell?, h1]
              clear hcb6 hown6 hgrow6 hat6 hat6' p3 F3 hst5
              cases xd
              · have HF : Hid (CInv w ((w6.setCell ⟨bM, j * 5 + 3, none⟩ (sliceOf gg 1 cap')).setCell ⟨bM, j * 5 + 4, none⟩ (.int .i64 1)) w.heap.size (k + 1) hs Mb' (Mm ++ [(⟨h, m, kk, 0, [wr.heap.size + 1], gg, cap'⟩ : MG).grant 1]) (some ⟨bM, 0, none⟩) ah cM3 cH) := F2.out rfl
                clear F1 F2
                go_wp2_with fail
                go_roundw
                case rel => exact ⟨k + 1, hs, Mb', _, _, ah, cM3, cH, j + 1, nH, by omega, by go_num, rfl, rfl, ⟨HF.out, by have := HnM.out; simpa using this, by have := HnH.out; simpa using this⟩⟩
                case measure => simp [intOf]; omega
              · have HF : Hid (CInv w (w6.setCell ⟨bM, j * 5 + 3, none⟩ (sliceOf gg 1 cap')) w.heap.size (k + 1) hs Mb' (Mm ++ [⟨h, m, kk, 0, [wr.heap.size + 1], gg, cap'⟩]) (some ⟨bM, 0, none⟩) ah cM3 cH) := F1.out rfl
                clear F1 F2
                go_wp2_with fail
                go_roundw
                case rel => exact ⟨k + 1, hs, Mb', _, _, ah, cM3, cH, j + 1, nH, by omega, by go_num, rfl, rfl, ⟨HF.out, by have := HnM.out; simpa using this, by have := HnH.out; simpa using this⟩⟩
                case measure => simp [intOf]; omega
    · have HKN : Hid (k = n) := (show k = n by omega)
      have hkn : ¬ ((k : Int) < (n : Int)) := by omega
      obtain ⟨N, V, rh, hN, I⟩ := HI.out.bi
      have hlen := I.mp.len 3
      rw [HnH.out] at hlen
      have HE0 : Hid (EInv w wr w.heap.size N V rh hs Mb Mm am ah cM cH) := ⟨I, HI.out.mi, HI.out.hi, HI.out.below, HI.out.same, HI.out.size⟩
      clear I
      clear hS HI
      go_wp2_with fail
      exact tail3 w wr a am ah n cap k nH cH nM cM N V rh hs Mb Mm _ _ _ _ _ _ _ _ _ _ _ _ _ _ _ _ _ _ _ _ _ _ _ _ _ _ _ _ _ _ _ _ _ _ _ _ _ _ _ _ _ _ _ _ _ _ _ _ _ _ _ _ _ _ _ _ _ _ _ _ _ _ _ _ _ _ _ _ _ _ _ _ _ _ _ _ _ _ _ _ _ _ _ _ _ _ _ _ _ _ _ _ _ _ _ _ _ _ _ _ _ _ _ _ _ _ _ _ _ _ _ _ _ _ _ _ _ _ _ _ _ _ _ _ _ _ _ _ _ _ _ _ _ _ _ _ _ _ _ _ _ _ _ _ _ _ _ _ _ _ (by assumption) HE0 HnM HnH hnM1 hnH1
end Go.Proofs.Ybulkdgpw
