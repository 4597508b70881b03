/- How often each node is primary; no Go in sight. -/
namespace Go.Proofs.Qxb6600025a
set_option linter.unusedVariables false
set_option linter.unusedSimpArgs false

/-- Of the regions below r, how many have node k of N for their primary. -/
def cntAt (N r k : Nat) : Nat := r / N + if k < r % N then 1 else 0

theorem cntAt_zero (N k : Nat) : cntAt N 0 k = 0 := by simp [cntAt]

theorem cntAt_succ (N r k : Nat) (hN : 0 < N) (hk : k < N) : cntAt N (r + 1) k = cntAt N r k + if k = r % N then 1 else 0 := by
  unfold cntAt
  have h1 := Nat.div_add_mod r N
  have h2 := Nat.mod_lt r hN
  by_cases h : r % N + 1 < N
  · obtain ⟨e1, e2⟩ := (Nat.div_mod_unique (a := r + 1) (b := N) (c := r % N + 1) (d := r / N) hN).2 ⟨by omega, h⟩
    rw [e1, e2]
    by_cases a : k < r % N
    · rw [if_pos (by omega), if_pos a, if_neg (by omega)]
    · by_cases b : k = r % N
      · rw [if_pos (by omega), if_neg a, if_pos b]
      · rw [if_neg (by omega), if_neg a, if_neg b]
  · obtain ⟨e1, e2⟩ := (Nat.div_mod_unique (a := r + 1) (b := N) (c := 0) (d := r / N + 1) hN).2 ⟨by rw [Nat.mul_add]; omega, hN⟩
    rw [e1, e2]
    by_cases a : k < r % N
    · rw [if_neg (by omega), if_pos a, if_neg (by omega)]
    · rw [if_neg (by omega), if_neg a, if_pos (by omega)]

theorem cntAt_le (N r k : Nat) : cntAt N r k ≤ r + 1 := by
  unfold cntAt
  have := Nat.div_le_self r N
  split <;> omega

theorem cntAt_two (N r k : Nat) : cntAt N r k = r / N ∨ cntAt N r k = r / N + 1 := by
  unfold cntAt
  split
  · exact .inr rfl
  · exact .inl rfl

theorem cntAt_down (N r k : Nat) : cntAt N r (k + 1) ≤ cntAt N r k := by
  unfold cntAt
  by_cases a : k + 1 < r % N
  · rw [if_pos a, if_pos (by omega)]; exact Nat.le_refl _
  · rw [if_neg a]; omega

theorem mod_apart (N r i j : Nat) (hij : j < i) (hiN : i < N) : (r + i) % N ≠ (r + j) % N := by
  intro h
  have h3 : (r + i - (r + j)) % N = 0 := Nat.sub_mod_eq_zero_of_mod_eq h
  rw [show r + i - (r + j) = i - j by omega, Nat.mod_eq_of_lt (by omega)] at h3
  omega
end Go.Proofs.Qxb6600025a
