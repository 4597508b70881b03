import Derived.Test.Qxb6600025aSizes
import Derived.ProofKit
import Derived.SliceStrings
namespace Go.Proofs.Qxb6600025a
set_option linter.unusedVariables false
set_option linter.unusedSimpArgs false
open Go.ChangeShapes Go.WideShapes Go.ChangeAt Go.RowKit

theorem Try.cells9 : Try.prog.cellsOf 9 = 1 := by kernel_rfl
theorem Try.cells24 : Try.prog.cellsOf 24 = 1 := by kernel_rfl

theorem short_empty : ByteArray.empty.size ≤ maxLen := Nat.zero_le _
theorem short_nil : Short [] := fun j => by
  have : ([] : List ByteArray).getD j ByteArray.empty = ByteArray.empty := by simp
  rw [this]; exact short_empty

/-- What a slice of strings that came in reads as. -/
theorem openS {H : Type} {enc : TypeId × Value → H} {W : World} {base : Nat} {spare : Nat → Bool} {held : Bool} {fuel : Nat} {a : Option Addr} {len cap : Nat} {x : DataW H × List MemPlace}
    (hf : DataW.trod enc Try.prog W base spare held fuel 24 [.slice a len cap] = some x) : ∃ ss, RdS W a len ss ∧ Short ss ∧ len ≤ cap ∧ cap ≤ maxLen ∧ (a = none → cap = 0) := by
  rcases open_strings Try.underlying24 Try.underlying9 Try.cells9 hf with ⟨hcs, _⟩ | ⟨y, l, c, zs, hcs, _, hl, hm, hz, _, hcell, hw⟩
  · simp only [List.cons.injEq, Value.slice.injEq, and_true] at hcs
    obtain ⟨rfl, rfl, rfl⟩ := hcs
    refine ⟨[], ⟨rfl, fun h => by omega⟩, short_nil, Nat.le_refl _, Nat.zero_le _, fun _ => rfl⟩
  · simp only [List.cons.injEq, Value.slice.injEq, and_true] at hcs
    obtain ⟨rfl, rfl, rfl⟩ := hcs
    have hlz : len ≤ zs.length := by rw [hz]; split <;> omega
    refine ⟨zs.take len, ⟨by rw [List.length_take]; omega, fun h0 => ?_⟩, ?_, hl, hm, fun e => (by cases e)⟩
    · obtain ⟨b, off, spot⟩ := y
      have hs : spot = none := by simpa [Addr.add] using World.cell?_spot (hcell 0 (by omega))
      subst hs
      refine ⟨b, off, rfl, fun j hj => ?_⟩
      have := hcell j (by omega)
      rw [Addr.add_lit] at this
      rw [this]
      simp [List.getD, hj]
    · intro j
      by_cases hj : j < zs.length ∧ j < len
      · have : (zs.take len).getD j ByteArray.empty = zs[j] := by simp [List.getD, hj.1, hj.2]
        rw [this]
        exact hw _ (List.getElem_mem _)
      · have : (zs.take len).getD j ByteArray.empty = ByteArray.empty := by
          rw [List.getD, List.getElem?_eq_none (by rw [List.length_take]; omega)]
          rfl
        rw [this]
        exact short_empty

/-- Every row's strings are short. -/
def ShortR (rows : List (List ByteArray)) : Prop := ∀ j, Short (rows.getD j []) ∧ (rows.getD j []).length ≤ maxLen

/-- What a slice of slices of strings that came in reads as. -/
theorem openR {H : Type} {enc : TypeId × Value → H} {W : World} {base : Nat} {spare : Nat → Bool} {held : Bool} {fuel : Nat} {a : Option Addr} {len cap : Nat} {x : DataW H × List MemPlace}
    (hf : DataW.trod enc Try.prog W base spare held fuel 23 [.slice a len cap] = some x) : ∃ rows, RdR W a len rows ∧ ShortR rows ∧ len ≤ cap ∧ cap ≤ maxLen ∧ (a = none → cap = 0) := by
  have hempty : Short [] := short_nil
  rcases DataW.trod_slice Try.underlying23 hf with ⟨hcs, _⟩ | ⟨y, l, c, elems, rest, n, _, hcs, _, _, hl, hm, hlen, hel, _, _⟩
  · simp only [List.cons.injEq, Value.slice.injEq, and_true] at hcs
    obtain ⟨rfl, rfl, rfl⟩ := hcs
    exact ⟨[], ⟨rfl, fun h => by omega⟩, fun j => ⟨by simpa using hempty, by simp⟩, Nat.le_refl _, Nat.zero_le _, fun _ => rfl⟩
  · simp only [List.cons.injEq, Value.slice.injEq, and_true] at hcs
    obtain ⟨rfl, rfl, rfl⟩ := hcs
    have each : ∀ i, ∃ row : List ByteArray, i < len → ∃ a' n' c', W.cell? (y.add i) = some (.slice a' n' c') ∧ n' ≤ c' ∧ (a' = none → c' = 0) ∧ RdS W a' n' row ∧ Short row ∧ row.length ≤ maxLen := by
      intro i
      by_cases hi : i < len
      · have h1 := hel i hi
        rw [List.getElem?_eq_getElem (by omega), Try.cells24, Nat.mul_one, Option.bind_eq_some_iff] at h1
        obtain ⟨cs', hcs, hy⟩ := h1
        have hform : ∃ a' n' c', cs' = [.slice a' n' c'] := by
          rcases DataW.trod_slice Try.underlying24 hy with ⟨h, _⟩ | ⟨a', l', c', _, _, _, _, h, _⟩
          · exact ⟨_, _, _, h⟩
          · exact ⟨_, _, _, h⟩
        obtain ⟨a', n', c', rfl⟩ := hform
        obtain ⟨ss, k1, k2, k3, k4, k5⟩ := openS hy
        exact ⟨ss, fun _ => ⟨a', n', c', cell_of_cells?_one hcs, k3, k5, k1, k2, by rw [k1.1]; omega⟩⟩
      · exact ⟨[], fun h => absurd h hi⟩
    have hg : ∀ j, j < len → ((List.range len).map fun i => Classical.choose (each i)).getD j [] = Classical.choose (each j) := fun j hj => by simp [List.getD, hj]
    refine ⟨(List.range len).map fun i => Classical.choose (each i), ⟨by simp, fun h0 => ?_⟩, ?_, hl, hm, fun e => (by cases e)⟩
    · obtain ⟨a0, n0, c0, k0, _⟩ := Classical.choose_spec (each 0) h0
      obtain ⟨b, off, spot⟩ := y
      have hs : spot = none := by simpa [Addr.add] using World.cell?_spot k0
      subst hs
      refine ⟨b, off, rfl, fun j hj => ?_⟩
      obtain ⟨a', n', c', k1, k2, k3, k4, _⟩ := Classical.choose_spec (each j) hj
      rw [Addr.add_lit] at k1
      exact ⟨a', n', c', k1, k2, k3, by rw [hg j hj]; exact k4⟩
    · intro j
      by_cases hj : j < len
      · rw [hg j hj]
        obtain ⟨_, _, _, _, _, _, _, k5, k6⟩ := Classical.choose_spec (each j) hj
        exact ⟨k5, k6⟩
      · have : ((List.range len).map fun i => Classical.choose (each i)).getD j [] = [] := by
          rw [List.getD, List.getElem?_eq_none (by simp; omega)]
          rfl
        rw [this]
        exact ⟨hempty, by simp⟩
end Go.Proofs.Qxb6600025a
