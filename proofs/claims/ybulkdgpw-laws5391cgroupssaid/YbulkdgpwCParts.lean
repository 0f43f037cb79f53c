import Derived.Test.YbulkdgpwCRound
namespace Go.Proofs.Ybulkdgpw
open Go.ChangeShapes Go.WideShapes Go.ChangeAt Go.RowKit Go.Maps
set_option linter.unusedVariables false

theorem info59 : (Yba.prog.info? 59).map (fun i => (i.zero, i.size, i.bytes)) = some (some (.int .u16 0), 1, 2) := by kernel_rfl
abbrev zero75 : Value := .agg #[.int .u16 0, .int .u8 0, .int .u8 0, .slice none 0 0, .int .i64 0]
theorem info75 : (Yba.prog.info? 75).map (fun i => (i.zero, i.size, i.bytes)) = some (some zero75, 5, 40) := by kernel_rfl
theorem size71 : (Yba.prog.info? 71).map (fun i => i.size) = some 15 := by kernel_rfl

theorem equal64 (a : Addr) (w : World) : (Op.equal 64 (.pointer (some a)) (.pointer (some a))).run Yba.prog w = .ok true w := by
  obtain ⟨j, hj, _⟩ := Option.map_eq_some_iff.1 size71
  have h : ∀ d : Nat, (Op.equalIn (d + 1) 64 (.pointer (some a)) (.pointer (some a))).run Yba.prog w = .ok true w := fun d => by
    simp [Op.equalIn, run_underlying Yba.underlying64, sizeOf, typeInfo, hj, run_sameAddr_same]
  exact h 9999
theorem neq64 (a : Addr) (w : World) : (binOp .neq 64 (.pointer (some a)) (.pointer (some a))).run Yba.prog w = .ok (.bool false) w := by
  simp only [binOp]
  simp [equal64 a w]

theorem CInv.bound {w wr : World} {B k : Nat} {hs : List Int} {Mb : List BG} {Mm : List MG} {am ah : Option Addr} {cM cH : Nat} (C : CInv w wr B k hs Mb Mm am ah cM cH) {g : MG} (hg : g ∈ Mm) : g.ls.length ≤ k ∧ g.gr ≤ k ∧ 0 ≤ g.gr := by
  have h1 : g.key ∈ Mb.map BG.key := by rw [C.same]; exact List.mem_map.2 ⟨g, hg, rfl⟩
  obtain ⟨g', hg', e⟩ := List.mem_map.1 h1
  obtain ⟨_, _, _, e4, e5⟩ := key_eq e
  have := C.each g' hg'
  rw [e4, e5] at this
  exact ⟨this.1, this.2, (C.mi.bd g hg).2.1⟩

theorem news_five (W : World) (a b c d e : Value) (t : TypeId) : ∀ j u, [a, b, c, d, e][j]? = some u → (W.alloc (.cells #[a, b, c, d, e] t)).cell? ((⟨W.heap.size, 0, none⟩ : Addr).add j) = some u :=
  World.news_of_block (cs := #[a, b, c, d, e]) (t := t) (fr := (0, 0)) (heap_alloc_new W _)
end Go.Proofs.Ybulkdgpw
