import Derived.Test.YbulkdgpwCRound
import Derived.OpenShut
import Derived.ShutString
import Derived.ChangeOld
import Derived.Below
import Derived.Deep.Slices
namespace Go.Proofs.Ybulkdgpw
open Go.ChangeShapes Go.WideShapes Go.ChangeAt Go.RowKit Go.Maps
set_option linter.unusedVariables false

theorem cells61 : Yba.prog.cellsOf 61 = 4 := by kernel_rfl
theorem cells59 : Yba.prog.cellsOf 59 = 1 := by kernel_rfl
theorem cells5 : Yba.prog.cellsOf 5 = 1 := by kernel_rfl
theorem cells4 : Yba.prog.cellsOf 4 = 1 := by kernel_rfl

theorem four : ∀ {cs : List Value}, cs.length = 4 → ∃ v0 v1 v2 v3, cs = [v0, v1, v2, v3]
  | [v0, v1, v2, v3], _ => ⟨v0, v1, v2, v3, rfl⟩

/-- One step, opened. -/
theorem step_of {H : Type} {enc : TypeId × Value → H} {W : World} {fuel : Nat} {cs : List Value} {x : DataW H × List MemPlace} (h : DataW.trod enc Yba.prog W 0 (fun _ => true) true fuel 61 cs = some x) :
    ∃ a b c d, cs = [.int .u16 a, .int .u8 b, .int .u8 c, .bool d] ∧ 0 ≤ a ∧ a ≤ 65535 ∧ 0 ≤ b ∧ b ≤ 255 ∧ 0 ≤ c ∧ c ≤ 255 := by
  obtain ⟨xs, n, _, _, hlen, hxs, hf⟩ := DataW.trod_struct Yba.underlying61 h
  rw [cells61] at hlen
  obtain ⟨v0, v1, v2, v3, rfl⟩ := four hlen
  have hx4 : xs.length = 4 := by simpa using hxs
  have f0 := hf 0 { name := "Heap", type := 59, offset := 0, embedded := false, tag := "", pkgPath := "", byteOffset := 0 } rfl
  have f1 := hf 1 { name := "Mode", type := 5, offset := 1, embedded := false, tag := "", pkgPath := "", byteOffset := 2 } rfl
  have f2 := hf 2 { name := "Kind", type := 5, offset := 2, embedded := false, tag := "", pkgPath := "", byteOffset := 3 } rfl
  have f3 := hf 3 { name := "Waiting", type := 4, offset := 3, embedded := false, tag := "", pkgPath := "", byteOffset := 4 } rfl
  rw [List.getElem?_eq_getElem (by omega)] at f0 f1 f2 f3
  dsimp only at f0 f1 f2 f3
  simp only [cells59, cells5, cells4, List.drop_succ_cons, List.drop_zero, List.take_succ_cons, List.take_zero] at f0 f1 f2 f3
  obtain ⟨a, ha, _, wa⟩ := DataW.trod_int Yba.underlying59 f0
  obtain ⟨b, hb, _, wb⟩ := DataW.trod_int Yba.underlying5 f1
  obtain ⟨c, hc, _, wc⟩ := DataW.trod_int Yba.underlying5 f2
  obtain ⟨d, hd, _⟩ := DataW.trod_bool Yba.underlying4 f3
  have e0 : v0 = .int .u16 a := by simpa using ha
  have e1 : v1 = .int .u8 b := by simpa using hb
  have e2 : v2 = .int .u8 c := by simpa using hc
  have e3 : v3 = .bool d := by simpa using hd
  have b1 := bounds_u16 wa
  have b2 := bounds_u8 wb
  have b3 := bounds_u8 wc
  exact ⟨a, b, c, d, by rw [e0, e1, e2, e3], b1.1, b1.2, b2.1, b2.2, b3.1, b3.2⟩

/-- The argument, opened. -/
theorem steps_of {H : Type} {enc : TypeId × Value → H} {W : World} {fuel : Nat} {a : Option Addr} {len cap : Nat} {cs : List Value} {x : DataW H × List MemPlace} (hcs : cs = [.slice a len cap]) (h : DataW.trod enc Yba.prog W 0 (fun _ => true) true fuel 55 cs = some x) :
    ∃ sa sb sc sd, StepsAt W a len sa sb sc sd := by
  rcases Deep.open_slice Yba.underlying55 h with ⟨e, _⟩ | ⟨ad, l, c, m, n, D, Pl, e, _, hl, hm, hmm, _, hx⟩
  · rw [hcs] at e
    have e' : a = none ∧ len = 0 ∧ cap = 0 := by simpa using e
    obtain ⟨rfl, rfl, rfl⟩ := e'
    exact ⟨fun _ => 0, fun _ => 0, fun _ => 0, fun _ => false, fun h => by omega, fun j => by simp⟩
  · rw [hcs] at e
    have e' : a = some ad ∧ len = l ∧ cap = c := by simpa using e
    obtain ⟨rfl, rfl, rfl⟩ := e'
    have hmc : m = cap := by simpa using hmm
    have bd : ∀ i, i < m → ∃ q : Int × Int × Int × Bool, (∀ o v, [Value.int .u16 q.1, .int .u8 q.2.1, .int .u8 q.2.2.1, .bool q.2.2.2][o]? = some v → W.cell? ((ad.add (i * 4)).add o) = some v) ∧ 0 ≤ q.1 ∧ q.1 ≤ 65535 ∧ 0 ≤ q.2.1 ∧ q.2.1 ≤ 255 ∧ 0 ≤ q.2.2.1 ∧ q.2.2.1 ≤ 255 := fun i hi => by
      obtain ⟨cs', h1, h2⟩ := hx i hi
      rw [cells61] at h1
      obtain ⟨_, _, h3⟩ := World.cells?_some h1
      obtain ⟨x0, x1, x2, x3, e, hb⟩ := step_of h2
      refine ⟨(x0, x1, x2, x3), fun o v hv => ?_, hb⟩
      have ho : o < 4 := by have := (List.getElem?_eq_some_iff.1 hv).1; simpa using this
      rw [h3 o ho, e]; exact hv
    obtain ⟨f, hf⟩ := Deep.choose_lt bd
    refine ⟨fun j => if j < m then (f j).1 else 0, fun j => if j < m then (f j).2.1 else 0, fun j => if j < m then (f j).2.2.1 else 0, fun j => (f j).2.2.2, fun hp => ?_, fun j => ?_⟩
    · have c0 := (hf 0 (by omega)).1 0 _ rfl
      obtain ⟨b, off, spot⟩ := ad
      have hspot : spot = none := by simpa [Addr.add] using World.cell?_spot c0
      subst hspot
      refine ⟨b, off, rfl, ?_, fun j hj => ?_⟩
      · simp only [World.cell?] at c0
        split at c0
        · rename_i h; exact (Array.getElem?_eq_some_iff.1 h).1
        all_goals simp at c0
      · have hjm : j < m := by omega
        obtain ⟨hc, _⟩ := hf j hjm
        have k0 := hc 0 _ rfl
        have k1 := hc 1 _ rfl
        have k2 := hc 2 _ rfl
        have k3 := hc 3 _ rfl
        simp only [Go.WideShapes.add_plain, Nat.add_zero] at k0 k1 k2 k3
        simp only [hjm, if_true]
        exact ⟨k0, k1, k2, k3⟩
    · by_cases hjm : j < m
      · obtain ⟨_, hb⟩ := hf j hjm
        simp only [hjm, if_true]
        exact hb
      · simp [hjm]
end Go.Proofs.Ybulkdgpw
