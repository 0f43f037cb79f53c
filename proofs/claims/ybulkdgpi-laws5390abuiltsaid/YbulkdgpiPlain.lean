/- Plain words on bytes: no Go in sight. -/
namespace Go.Proofs.Ybulkdgpi

/-- A byte of a literal: a digit, an ASCII letter, '+', '-', '.', '_'. -/
def okB (c : Int) : Bool := decide ((48 ≤ c ∧ c ≤ 57) ∨ (97 ≤ c ∧ c ≤ 122) ∨ (65 ≤ c ∧ c ≤ 90) ∨ c = 43 ∨ c = 45 ∨ c = 46 ∨ c = 95)

/-- The byte at j is there, and is one of a literal. -/
def okAt (s : ByteArray) (j : Nat) : Bool := if h : j < s.size then okB (s[j].toNat : Int) else false

theorem okAt_lt {s : ByteArray} {j : Nat} (h : j < s.size) : okAt s j = okB (s[j].toNat : Int) := by simp [okAt, h]
theorem okAt_ge {s : ByteArray} {j : Nat} (h : ¬ j < s.size) : okAt s j = false := by simp [okAt, h]

/-- k is the end of the run of literal bytes that starts at i. -/
def IsEnd (s : ByteArray) (i k : Nat) : Prop := i ≤ k ∧ (∀ j, i ≤ j → j < k → okAt s j = true) ∧ okAt s k = false

theorem IsEnd.one {s : ByteArray} {i k m : Nat} (h : IsEnd s i k) (g : IsEnd s i m) : k = m := by
  obtain ⟨h1, h2, h3⟩ := h
  obtain ⟨g1, g2, g3⟩ := g
  rcases Nat.lt_trichotomy k m with hl | hl | hl
  · have := g2 k h1 hl; rw [h3] at this; cases this
  · exact hl
  · have := h2 m g1 hl; rw [g3] at this; cases this

/-- The run so far: all bytes from i up to k are literal bytes. -/
def Run (s : ByteArray) (i k : Nat) : Prop := i ≤ k ∧ ∀ j, i ≤ j → j < k → okAt s j = true
theorem Run.start (s : ByteArray) (i : Nat) : Run s i i := ⟨Nat.le_refl _, fun j h1 h2 => by omega⟩
theorem Run.step {s : ByteArray} {i k : Nat} (h : Run s i k) (ho : okAt s k = true) : Run s i (k + 1) :=
  ⟨by have := h.1; omega, fun j h1 h2 => by
    by_cases e : j = k
    · rw [e]; exact ho
    · exact h.2 j h1 (by omega)⟩
theorem Run.stop {s : ByteArray} {i k : Nat} (h : Run s i k) (ho : okAt s k = false) : IsEnd s i k := ⟨h.1, h.2, ho⟩

/-- The ways through the tests on a byte. -/
theorem ways (c : Int) (h0 : 0 ≤ c) (h1 : c ≤ 255) : (okB c = true ∧ ((48 ≤ c ∧ c ≤ 57) ∨ (97 ≤ c ∧ c ≤ 122) ∨ (65 ≤ c ∧ c ≤ 90) ∨ c = 43 ∨ c = 45 ∨ c = 46 ∨ c = 95)) ∨
    (okB c = false ∧ ((0 ≤ c ∧ c ≤ 42) ∨ c = 44 ∨ c = 47 ∨ (58 ≤ c ∧ c ≤ 64) ∨ (91 ≤ c ∧ c ≤ 94) ∨ c = 96 ∨ (123 ≤ c ∧ c ≤ 255))) := by
  unfold okB
  by_cases h : (48 ≤ c ∧ c ≤ 57) ∨ (97 ≤ c ∧ c ≤ 122) ∨ (65 ≤ c ∧ c ≤ 90) ∨ c = 43 ∨ c = 45 ∨ c = 46 ∨ c = 95
  · exact Or.inl ⟨by simpa using h, h⟩
  · exact Or.inr ⟨by simpa using h, by omega⟩
end Go.Proofs.Ybulkdgpi
