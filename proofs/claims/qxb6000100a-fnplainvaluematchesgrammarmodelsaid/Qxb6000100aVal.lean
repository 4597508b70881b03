/- The plain values, no Go in sight. -/
import Derived.Test.Qxb6000100aPlain
namespace Go.Proofs.Qxb6000100a
set_option linter.unusedVariables false
set_option linter.unusedSimpArgs false

def tru : List Int := [116, 114, 117, 101]
def fal : List Int := [102, 97, 108, 115, 101]
def nul : List Int := [110, 117, 108, 108]

/-- The bytes L stand at i. -/
def HasAt (zs : List Int) (i : Nat) (L : List Int) : Prop := (zs.drop i).take L.length = L

theorem HasAt.fits {zs : List Int} {i : Nat} {L : List Int} (h : HasAt zs i L) : L.length = 0 ∨ i + L.length ≤ zs.length := by
  have := congrArg List.length h
  simp only [List.length_take, List.length_drop] at this
  omega

def Dig (c : Int) : Prop := 48 ≤ c ∧ c ≤ 57

/-- A run of digits from i on ends at m. -/
def IsNum (zs : List Int) (i m : Nat) : Prop := i < m ∧ m ≤ zs.length ∧ (∀ t, i < t → t < m → Dig (zs.getD t 0)) ∧ (m < zs.length → ¬ Dig (zs.getD m 0))

/-- Where the literal at i ends, if one stands there. -/
def LitEnd (zs : List Int) (i m : Nat) : Prop :=
  (HasAt zs i tru ∧ m = i + 4) ∨ (¬ HasAt zs i tru ∧ HasAt zs i fal ∧ m = i + 5) ∨ (¬ HasAt zs i tru ∧ ¬ HasAt zs i fal ∧ HasAt zs i nul ∧ m = i + 4)

/-- A plain value stands at i and ends ahead of m. -/
def IsVal (zs : List Int) (i m : Nat) : Prop := i < zs.length ∧
  ((∃ j, IsStr zs i j ∧ m = j + 1) ∨ (zs.getD i 0 = 48 ∧ m = i + 1) ∨ (49 ≤ zs.getD i 0 ∧ zs.getD i 0 ≤ 57 ∧ IsNum zs i m) ∨
   (zs.getD i 0 ≠ 34 ∧ ¬ Dig (zs.getD i 0) ∧ LitEnd zs i m))

theorem isNum_exists (zs : List Int) (i : Nat) (hi : i < zs.length) : ∃ m, IsNum zs i m := by
  have key : ∀ n, n ≤ zs.length → i < n → (∀ t, i < t → t < n → Dig (zs.getD t 0)) ∨ ∃ m, IsNum zs i m := by
    intro n
    induction n with
    | zero => intro _ h; omega
    | succ n ih =>
      intro h1 h2
      by_cases hn : i < n
      · rcases ih (by omega) hn with h | h
        · by_cases hd : Dig (zs.getD n 0)
          · refine .inl fun t t1 t2 => ?_
            by_cases ht : t < n
            · exact h t t1 ht
            · obtain rfl : t = n := by omega
              exact hd
          · exact .inr ⟨n, hn, by omega, h, fun _ => hd⟩
        · exact .inr h
      · exact .inl fun t t1 t2 => by omega
  rcases key zs.length (Nat.le_refl _) hi with h | h
  · exact ⟨zs.length, hi, Nat.le_refl _, h, fun h => by omega⟩
  · exact h

theorem IsVal.bounds {zs : List Int} {i m : Nat} (h : IsVal zs i m) : i < m ∧ m ≤ zs.length := by
  obtain ⟨hi, ⟨j, hj, rfl⟩ | ⟨_, rfl⟩ | ⟨_, _, h1, h2, _⟩ | ⟨_, _, h⟩⟩ := h
  · have := hj.1; have := hj.2.1; omega
  · omega
  · exact ⟨h1, h2⟩
  · rcases h with ⟨h, rfl⟩ | ⟨_, h, rfl⟩ | ⟨_, _, h, rfl⟩ <;>
    · have := h.fits
      simp [tru, fal, nul] at this
      omega

theorem IsNum.unique {zs : List Int} {i m m' : Nat} (h : IsNum zs i m) (h' : IsNum zs i m') : m = m' := by
  obtain ⟨a1, a2, a3, a4⟩ := h
  obtain ⟨b1, b2, b3, b4⟩ := h'
  rcases Nat.lt_trichotomy m m' with h | h | h
  · exact absurd (b3 m a1 h) (a4 (by omega))
  · exact h
  · exact absurd (a3 m' b1 h) (b4 (by omega))

theorem LitEnd.unique {zs : List Int} {i m m' : Nat} (h : LitEnd zs i m) (h' : LitEnd zs i m') : m = m' := by
  rcases h with ⟨h, rfl⟩ | ⟨n, h, rfl⟩ | ⟨n, n2, h, rfl⟩ <;> rcases h' with ⟨k, rfl⟩ | ⟨l, k, rfl⟩ | ⟨l, l2, k, rfl⟩ <;> first | rfl | contradiction

theorem IsVal.unique {zs : List Int} {i m m' : Nat} (h : IsVal zs i m) (h' : IsVal zs i m') : m = m' := by
  obtain ⟨hi, h⟩ := h
  obtain ⟨_, h'⟩ := h'
  rcases h with ⟨j, hj, rfl⟩ | ⟨h1, rfl⟩ | ⟨h1, h2, h3⟩ | ⟨h1, h2, h3⟩ <;> rcases h' with ⟨j', hj', rfl⟩ | ⟨k1, rfl⟩ | ⟨k1, k2, k3⟩ | ⟨k1, k2, k3⟩
  · rw [hj.unique hj']
  · have := hj.2.2.1; omega
  · have := hj.2.2.1; omega
  · exact absurd hj.2.2.1 k1
  · have := hj'.2.2.1; omega
  · rfl
  · omega
  · exact absurd ⟨by omega, by omega⟩ k2
  · have := hj'.2.2.1; omega
  · omega
  · exact h3.unique k3
  · exact absurd ⟨by omega, by omega⟩ k2
  · exact absurd hj'.2.2.1 h1
  · exact absurd ⟨by omega, by omega⟩ h2
  · exact absurd ⟨by omega, by omega⟩ h2
  · exact h3.unique k3
end Go.Proofs.Qxb6000100a
