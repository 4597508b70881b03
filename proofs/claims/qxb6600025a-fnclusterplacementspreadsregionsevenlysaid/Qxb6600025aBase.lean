import Derived.Test.Qxb6600025aRows
import Derived.WalkKit
import Derived.WalkSpells
import Derived.WalkSmall
import Derived.BigQuiet
import Derived.Deep.QuietTactic
namespace Go.Proofs.Qxb6600025a
set_option linter.unusedVariables false
set_option linter.unusedSimpArgs false
open Go.RowKit

theorem Try.info24 : (Try.prog.info? 24).map (fun i => (i.zero, i.size, i.bytes)) = some (some (.slice none 0 0), 1, 24) := by kernel_rfl
theorem Try.info9 : (Try.prog.info? 9).map (fun i => (i.zero, i.size, i.bytes)) = some (some (.string ⟨#[]⟩), 1, 16) := by kernel_rfl
theorem Try.info42 : (Try.prog.info? 42).map (fun i => (i.zero, i.size, i.bytes)) = some (some (.agg #[.string ⟨#[]⟩, .string ⟨#[]⟩, .string ⟨#[]⟩]), 3, 48) := by kernel_rfl
theorem Try.info3 : (Try.prog.info? 3).map (fun i => (i.zero, i.size, i.bytes)) = some (some (.int .i64 0), 1, 8) := by kernel_rfl

/-- A slice of strings (address a, length n) reads as ss. -/
def RdS (w : World) (a : Option Addr) (n : Nat) (ss : List ByteArray) : Prop :=
  ss.length = n ∧ (0 < n → ∃ b off, a = some ⟨b, off, none⟩ ∧ ∀ j, j < n → w.cell? ⟨b, off + j, none⟩ = some (.string (ss.getD j ByteArray.empty)))

/-- A slice of slices of strings reads as rows. -/
def RdR (w : World) (a : Option Addr) (n : Nat) (rows : List (List ByteArray)) : Prop :=
  rows.length = n ∧ (0 < n → ∃ b off, a = some ⟨b, off, none⟩ ∧ ∀ j, j < n → ∃ a' n' c', w.cell? ⟨b, off + j, none⟩ = some (.slice a' n' c') ∧ n' ≤ c' ∧ RdS w a' n' (rows.getD j []))

theorem RdS.later {w w' : World} {a : Option Addr} {n : Nat} {ss : List ByteArray} (h : RdS w a n ss) (hB : Below w.heap.size w w') : RdS w' a n ss := by
  refine ⟨h.1, fun h0 => ?_⟩
  obtain ⟨b, off, rfl, hc⟩ := h.2 h0
  exact ⟨b, off, rfl, fun j hj => cell_later hB (hc j hj)⟩

theorem RdR.later {w w' : World} {a : Option Addr} {n : Nat} {rows : List (List ByteArray)} (h : RdR w a n rows) (hB : Below w.heap.size w w') : RdR w' a n rows := by
  refine ⟨h.1, fun h0 => ?_⟩
  obtain ⟨b, off, rfl, hc⟩ := h.2 h0
  refine ⟨b, off, rfl, fun j hj => ?_⟩
  obtain ⟨a', n', c', h1, h2, h3⟩ := hc j hj
  exact ⟨a', n', c', cell_later hB h1, h2, h3.later hB⟩

theorem owned_lt {w : World} {base : Nat} {e : TypeId} {size g n cap : Nat} {xs : List Value} (h : w.ownsRow base e size (.slice (some ⟨g, 0, none⟩) n cap) n xs) : g < w.heap.size := by
  rcases h.2 with ⟨h', _⟩ | ⟨g', cap', cur, h', _, hg, _⟩
  · simp at h'
  · simp only [Value.slice.injEq, Option.some.injEq, Addr.mk.injEq, and_true, true_and] at h'
    obtain ⟨rfl, rfl⟩ := h'
    exact (Array.getElem?_eq_some_iff.1 hg).1

/-- What is owned stays owned where its block is as it was. -/
theorem owned_of_block {w w' : World} {base : Nat} {e : TypeId} {size g n cap : Nat} {xs : List Value} (h : w.ownsRow base e size (.slice (some ⟨g, 0, none⟩) n cap) n xs) (hb : w'.heap[g]? = w.heap[g]?) : w'.ownsRow base e size (.slice (some ⟨g, 0, none⟩) n cap) n xs := by
  obtain ⟨h1, h2⟩ := h
  refine ⟨h1, ?_⟩
  rcases h2 with h2 | ⟨g', cap', cur, hv, hg, hh, r⟩
  · exact .inl h2
  · have hv' := hv
    simp only [Value.slice.injEq, Option.some.injEq, Addr.mk.injEq, and_true, true_and] at hv'
    obtain ⟨rfl, rfl⟩ := hv'
    exact .inr ⟨g, cap, cur, hv, hg, by rw [hb]; exact hh, r⟩

theorem owned_below {w w' : World} {base B : Nat} {e : TypeId} {size g n cap : Nat} {xs : List Value} (h : w.ownsRow base e size (.slice (some ⟨g, 0, none⟩) n cap) n xs) (hB : Below B w w') (hg : g < B) : w'.ownsRow base e size (.slice (some ⟨g, 0, none⟩) n cap) n xs :=
  owned_of_block h (hB.block g hg)

/-- A row of n values of which the first k are f's, the rest z. -/
def filledV (f : Nat → Value) (z : Value) (n k : Nat) : List Value := (List.range n).map fun j => if j < k then f j else z

theorem filledV_length (f : Nat → Value) (z : Value) (n k : Nat) : (filledV f z n k).length = n := by simp [filledV]

theorem filledV_zero (f : Nat → Value) (z : Value) (n : Nat) : filledV f z n 0 = List.replicate n z := by
  apply List.ext_getElem (by simp [filledV])
  intro i h1 h2
  simp [filledV]

theorem filledV_set (f : Nat → Value) (z : Value) (n k : Nat) : (filledV f z n k).set k (f k) = filledV f z n (k + 1) := by
  apply List.ext_getElem (by simp [filledV])
  intro i h1 h2
  have h3 : i < n := by simpa [filledV] using h2
  simp only [filledV, List.getElem_set, List.getElem_map, List.getElem_range]
  by_cases hk : k = i
  · subst hk
    simp
  · rw [if_neg hk]
    by_cases h4 : i < k
    · rw [if_pos h4, if_pos (by omega)]
    · rw [if_neg h4, if_neg (by omega)]

theorem filledV_get (f : Nat → Value) (z : Value) (n k j : Nat) (hj : j < k) (hn : j < n) : (filledV f z n k)[j]? = some (f j) := by
  simp [filledV, hj, hn]

theorem made_strings (m : Nat) : (madeCells #[Value.string ⟨#[]⟩] m).toList = List.replicate m (.string ⟨#[]⟩) := toList_madeCells_one _ _
end Go.Proofs.Qxb6600025a
