/- The plain laws: what a plain string, a plain value is; no Go in sight. -/
namespace Go.Proofs.Qxb6000100a
set_option linter.unusedVariables false
set_option linter.unusedSimpArgs false

/-- A byte that may stand inside a plain string. -/
def Okb (c : Int) : Prop := 32 ≤ c ∧ c ≤ 126 ∧ c ≠ 92 ∧ c ≠ 34

/-- A plain string stands at i, its closing quote at j. -/
def IsStr (zs : List Int) (i j : Nat) : Prop :=
  i < j ∧ j < zs.length ∧ zs.getD i 0 = 34 ∧ zs.getD j 0 = 34 ∧ ∀ t, i < t → t < j → Okb (zs.getD t 0)

theorem IsStr.unique {zs : List Int} {i j j' : Nat} (h : IsStr zs i j) (h' : IsStr zs i j') : j = j' := by
  obtain ⟨a1, a2, a3, a4, a5⟩ := h
  obtain ⟨b1, b2, b3, b4, b5⟩ := h'
  rcases Nat.lt_trichotomy j j' with h | h | h
  · exact absurd a4 (b5 j a1 h).2.2.2
  · exact h
  · exact absurd b4 (a5 j' b1 h).2.2.2
end Go.Proofs.Qxb6000100a
