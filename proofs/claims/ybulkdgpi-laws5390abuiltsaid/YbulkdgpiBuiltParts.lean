import Derived.Test.YbulkdgpiEnd
import Derived.Room.AppendFits
import Derived.Laws.IdiomStrings
namespace Go.Proofs.Ybulkdgpi
open Go.ChangeShapes Go.WideShapes Go.ChangeAt Go.RowKit

theorem info5 : (Yba.prog.info? 5).map (fun i => (i.zero, i.size, i.bytes)) = some (some (.int .u8 0), 1, 1) := by kernel_rfl

def allowed : List UInt8 := [97, 122, 65, 90, 48, 57, 43, 45, 46, 95, 109, 113, 53, 89, 107]
def stops : List UInt8 := [32, 44, 59, 58, 93, 125, 10, 0, 255, 35, 47, 42, 61, 33]
/-- The byte that 'allowed[z % 15]', 'stops[z % 14]' picks. -/
def allowOf (z : Int) : UInt8 := allowed.getD (z % 15).toNat 0
def stopOf (z : Int) : UInt8 := stops.getD (z % 14).toNat 0

theorem allow_ok (z : Int) : okB ((allowOf z).toNat : Int) = true := by
  unfold allowOf
  have h0 : (z % 15).toNat < 15 := by omega
  generalize (z % 15).toNat = m at h0
  revert m
  decide
theorem stop_no (z : Int) : okB ((stopOf z).toNat : Int) = false := by
  unfold stopOf
  have h0 : (z % 14).toNat < 14 := by omega
  generalize (z % 14).toNat = m at h0
  revert m
  decide

theorem allow_index (z : Int) (W : World) : (Instr.index 9 (.string { data := #[97, 122, 65, 90, 48, 57, 43, 45, 46, 95, 109, 113, 53, 89, 107] }) (.int .i64 (z % 15))).run Yba.prog W = .ok (.int .u8 ((allowOf z).toNat : Int)) W := by
  unfold allowOf
  obtain ⟨m, hm, hl⟩ : ∃ m : Nat, z % 15 = (m : Int) ∧ m < 15 := ⟨(z % 15).toNat, by omega, by omega⟩
  rw [hm, Int.toNat_natCast]
  have hm' : m = 0 ∨ m = 1 ∨ m = 2 ∨ m = 3 ∨ m = 4 ∨ m = 5 ∨ m = 6 ∨ m = 7 ∨ m = 8 ∨ m = 9 ∨ m = 10 ∨ m = 11 ∨ m = 12 ∨ m = 13 ∨ m = 14 := by omega
  rcases hm' with rfl | rfl | rfl | rfl | rfl | rfl | rfl | rfl | rfl | rfl | rfl | rfl | rfl | rfl | rfl <;> exact rfl
theorem stop_index (z : Int) (W : World) : (Instr.index 9 (.string { data := #[32, 44, 59, 58, 93, 125, 10, 0, 255, 35, 47, 42, 61, 33] }) (.int .i64 (z % 14))).run Yba.prog W = .ok (.int .u8 ((stopOf z).toNat : Int)) W := by
  unfold stopOf
  obtain ⟨m, hm, hl⟩ : ∃ m : Nat, z % 14 = (m : Int) ∧ m < 14 := ⟨(z % 14).toNat, by omega, by omega⟩
  rw [hm, Int.toNat_natCast]
  have hm' : m = 0 ∨ m = 1 ∨ m = 2 ∨ m = 3 ∨ m = 4 ∨ m = 5 ∨ m = 6 ∨ m = 7 ∨ m = 8 ∨ m = 9 ∨ m = 10 ∨ m = 11 ∨ m = 12 ∨ m = 13 := by omega
  rcases hm' with rfl | rfl | rfl | rfl | rfl | rfl | rfl | rfl | rfl | rfl | rfl | rfl | rfl | rfl <;> exact rfl

/-- Bytes as cells. -/
def cellsOf (l : List UInt8) : List Value := l.map fun b => Value.int .u8 b.toNat
theorem cellsOf_str (s : ByteArray) : Lib.strCells s = cellsOf s.data.toList := rfl
theorem cellsOf_append (l m : List UInt8) : cellsOf (l ++ m) = cellsOf l ++ cellsOf m := by simp [cellsOf]
theorem cellsOf_one (b : UInt8) : cellsOf [b] = [Value.int .u8 b.toNat] := rfl

/-- The body's bytes after k rounds. -/
def bodyB (zs : List Int) (k : Nat) : List UInt8 := (zs.take k).map allowOf
theorem bodyB_succ (zs : List Int) (k : Nat) (h : k < zs.length) : bodyB zs (k + 1) = bodyB zs k ++ [allowOf (zs[k]?.getD 0)] := by
  unfold bodyB
  rw [List.take_succ_eq_append_getElem h, List.map_append]
  simp only [List.map_cons, List.map_nil, List.getElem?_eq_getElem h, Option.getD_some]
theorem bodyB_length (zs : List Int) (k : Nat) (h : k ≤ zs.length) : (bodyB zs k).length = k := by simp [bodyB]; omega

/-- The whole text. -/
def whole (p : ByteArray) (zs : List Int) (n : Nat) (z : Int) (t : ByteArray) : List UInt8 := p.data.toList ++ bodyB zs n ++ [stopOf z] ++ t.data.toList

theorem size_toList (p : ByteArray) : p.data.toList.length = p.size := by rw [Array.length_toList]; rfl

theorem whole_length (p : ByteArray) (zs : List Int) (n : Nat) (z : Int) (t : ByteArray) (h : n ≤ zs.length) : (whole p zs n z t).length = p.size + n + 1 + t.size := by
  simp only [whole, List.length_append, bodyB_length zs n h, size_toList, List.length_singleton]

theorem okAt_list (l : List UInt8) (j : Nat) : okAt ⟨l.toArray⟩ j = (match l[j]? with | some b => okB (b.toNat : Int) | none => false) := by
  by_cases h : j < l.length
  · have h' : j < (⟨l.toArray⟩ : ByteArray).size := by show j < l.toArray.size; simpa using h
    rw [okAt_lt h', List.getElem?_eq_getElem h]
    rfl
  · have h' : ¬ j < (⟨l.toArray⟩ : ByteArray).size := by show ¬ j < l.toArray.size; simpa using h
    rw [okAt_ge h', List.getElem?_eq_none (by omega)]

/-- What the whole text is good for. -/
theorem whole_end (p : ByteArray) (zs : List Int) (n : Nat) (z : Int) (t : ByteArray) (h : n ≤ zs.length) : IsEnd ⟨(whole p zs n z t).toArray⟩ p.size (p.size + n) := by
  refine ⟨by omega, fun j h1 h2 => ?_, ?_⟩
  · rw [okAt_list]
    have hb : j - p.size < (bodyB zs n).length := by rw [bodyB_length zs n h]; omega
    have : (whole p zs n z t)[j]? = some ((bodyB zs n)[j - p.size]'hb) := by
      unfold whole
      rw [List.append_assoc, List.append_assoc, List.getElem?_append_right (by rw [size_toList]; exact h1), List.getElem?_append_left (by rw [size_toList]; exact hb), size_toList, List.getElem?_eq_getElem hb]
    rw [this]
    simp only [bodyB, List.getElem_map]
    exact allow_ok _
  · rw [okAt_list]
    have : (whole p zs n z t)[p.size + n]? = some (stopOf z) := by
      unfold whole
      rw [List.append_assoc, List.getElem?_append_right (by simp [bodyB_length zs n h]), List.getElem?_append_left (by simp [bodyB_length zs n h])]
      simp [bodyB_length zs n h]
    rw [this]
    exact stop_no z

/-- 'string(b)' behind the last append. -/
theorem conv_whole {w4 : World} {B g C k : Nat} {p t : ByteArray} {zs : List Int} {z : Int} (hk : k ≤ zs.length) (hp : p.size ≤ 1024) (hl : k ≤ 1024) (ht : t.size ≤ 1024)
    (hown : w4.ownsRow B 5 1 (.slice (some ⟨g, 0, none⟩) (p.size + k + 1 + t.size) C) (p.size + k + 1 + t.size) (cellsOf (p.data.toList ++ bodyB zs k) ++ [.int .u8 ((stopOf z).toNat : Int)] ++ Lib.strCells t)) :
    ∃ S : ByteArray, S.size ≤ 10000 ∧ p.size + k < S.size ∧ Hid (IsEnd S p.size (p.size + k)) ∧ (convert 26 9 (.slice (some ⟨g, 0, none⟩) (p.size + k + 1 + t.size) C)).run Yba.prog w4 = .ok (.string S) w4 := by
  have hlen := whole_length p zs k z t hk
  have hcells : cellsOf (p.data.toList ++ bodyB zs k) ++ [.int .u8 ((stopOf z).toNat : Int)] ++ Lib.strCells t = cellsOf (whole p zs k z t) := by
    unfold whole
    simp only [cellsOf_append, cellsOf_one]
    rfl
  rw [hcells] at hown
  have hsz : (⟨(whole p zs k z t).toArray⟩ : ByteArray).size = p.size + k + 1 + t.size := by
    show (whole p zs k z t).toArray.size = _
    simpa using hlen
  refine ⟨⟨(whole p zs k z t).toArray⟩, by rw [hsz]; omega, by rw [hsz]; omega, whole_end p zs k z t hk, ?_⟩
  rw [← hlen] at hown ⊢
  refine run_convert_bytes_back w4 26 9 5 ⟨g, 0, none⟩ C (whole p zs k z t) Yba.underlying26 Yba.underlying5 Yba.underlying9 (fun j hj => ?_)
  rw [add_plain, Nat.zero_add, hown.cellAt j (by simpa using hj)]
  simp [cellsOf, List.getElem?_eq_getElem hj]
end Go.Proofs.Ybulkdgpi
