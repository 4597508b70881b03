import Derived.Test.Qxb6600025aRows
import Derived.WalkKit
import Derived.WalkSpells
import Derived.WalkSmall
import Derived.BigQuiet
import Derived.Deep.QuietTactic
namespace Go.Proofs.Qxb6600025a
set_option linter.unusedVariables false
set_option linter.unusedSimpArgs false
open Go.RowKit

theorem Try.info24 : (Try.prog.info? 24).map (fun i => (i.zero, i.size, i.bytes)) = some (some (.slice none 0 0), 1, 24) := by kernel_rfl
theorem Try.info9 : (Try.prog.info? 9).map (fun i => (i.zero, i.size, i.bytes)) = some (some (.string ⟨#[]⟩), 1, 16) := by kernel_rfl
theorem Try.info42 : (Try.prog.info? 42).map (fun i => (i.zero, i.size, i.bytes)) = some (some (.agg #[.string ⟨#[]⟩, .string ⟨#[]⟩, .string ⟨#[]⟩]), 3, 48) := by kernel_rfl
theorem Try.info3 : (Try.prog.info? 3).map (fun i => (i.zero, i.size, i.bytes)) = some (some (.int .i64 0), 1, 8) := by kernel_rfl

/-- A slice of strings (address a, length n) reads as ss. -/
def RdS (w : World) (a : Option Addr) (n : Nat) (ss : List ByteArray) : Prop :=
  ss.length = n ∧ (0 < n → ∃ b off, a = some ⟨b, off, none⟩ ∧ ∀ j, j < n → w.cell? ⟨b, off + j, none⟩ = some (.string (ss.getD j ByteArray.empty)))

/-- A slice of slices of strings reads as rows. -/
def RdR (w : World) (a : Option Addr) (n : Nat) (rows : List (List ByteArray)) : Prop :=
  rows.length = n ∧ (0 < n → ∃ b off, a = some ⟨b, off, none⟩ ∧ ∀ j, j < n → ∃ a' n' c', w.cell? ⟨b, off + j, none⟩ = some (.slice a' n' c') ∧ n' ≤ c' ∧ (a' = none → c' = 0) ∧ RdS w a' n' (rows.getD j []))

theorem RdS.later {w w' : World} {a : Option Addr} {n : Nat} {ss : List ByteArray} (h : RdS w a n ss) (hB : Below w.heap.size w w') : RdS w' a n ss := by
  refine ⟨h.1, fun h0 => ?_⟩
  obtain ⟨b, off, rfl, hc⟩ := h.2 h0
  exact ⟨b, off, rfl, fun j hj => cell_later hB (hc j hj)⟩

theorem RdR.later {w w' : World} {a : Option Addr} {n : Nat} {rows : List (List ByteArray)} (h : RdR w a n rows) (hB : Below w.heap.size w w') : RdR w' a n rows := by
  refine ⟨h.1, fun h0 => ?_⟩
  obtain ⟨b, off, rfl, hc⟩ := h.2 h0
  refine ⟨b, off, rfl, fun j hj => ?_⟩
  obtain ⟨a', n', c', h1, h2, h4, h3⟩ := hc j hj
  exact ⟨a', n', c', cell_later hB h1, h2, h4, h3.later hB⟩

theorem owned_lt {w : World} {base : Nat} {e : TypeId} {size g n cap : Nat} {xs : List Value} (h : w.ownsRow base e size (.slice (some ⟨g, 0, none⟩) n cap) n xs) : g < w.heap.size := by
  rcases h.2 with ⟨h', _⟩ | ⟨g', cap', cur, h', _, hg, _⟩
  · simp at h'
  · simp only [Value.slice.injEq, Option.some.injEq, Addr.mk.injEq, and_true, true_and] at h'
    obtain ⟨rfl, rfl⟩ := h'
    exact (Array.getElem?_eq_some_iff.1 hg).1

/-- What is owned stays owned where its block is as it was. -/
theorem owned_of_block {w w' : World} {base : Nat} {e : TypeId} {size g n cap : Nat} {xs : List Value} (h : w.ownsRow base e size (.slice (some ⟨g, 0, none⟩) n cap) n xs) (hb : w'.heap[g]? = w.heap[g]?) : w'.ownsRow base e size (.slice (some ⟨g, 0, none⟩) n cap) n xs := by
  obtain ⟨h1, h2⟩ := h
  refine ⟨h1, ?_⟩
  rcases h2 with h2 | ⟨g', cap', cur, hv, hg, hh, r⟩
  · exact .inl h2
  · have hv' := hv
    simp only [Value.slice.injEq, Option.some.injEq, Addr.mk.injEq, and_true, true_and] at hv'
    obtain ⟨rfl, rfl⟩ := hv'
    exact .inr ⟨g, cap, cur, hv, hg, by rw [hb]; exact hh, r⟩

theorem owned_below {w w' : World} {base B : Nat} {e : TypeId} {size g n cap : Nat} {xs : List Value} (h : w.ownsRow base e size (.slice (some ⟨g, 0, none⟩) n cap) n xs) (hB : Below B w w') (hg : g < B) : w'.ownsRow base e size (.slice (some ⟨g, 0, none⟩) n cap) n xs :=
  owned_of_block h (hB.block g hg)

/-- A row of n values of which the first k are f's, the rest z. -/
def filledV (f : Nat → Value) (z : Value) (n k : Nat) : List Value := (List.range n).map fun j => if j < k then f j else z

theorem filledV_length (f : Nat → Value) (z : Value) (n k : Nat) : (filledV f z n k).length = n := by simp [filledV]

theorem filledV_zero (f : Nat → Value) (z : Value) (n : Nat) : filledV f z n 0 = List.replicate n z := by
  apply List.ext_getElem (by simp [filledV])
  intro i h1 h2
  simp [filledV]

theorem filledV_set (f : Nat → Value) (z : Value) (n k : Nat) : (filledV f z n k).set k (f k) = filledV f z n (k + 1) := by
  apply List.ext_getElem (by simp [filledV])
  intro i h1 h2
  have h3 : i < n := by simpa [filledV] using h2
  simp only [filledV, List.getElem_set, List.getElem_map, List.getElem_range]
  by_cases hk : k = i
  · subst hk
    simp
  · rw [if_neg hk]
    by_cases h4 : i < k
    · rw [if_pos h4, if_pos (by omega)]
    · rw [if_neg h4, if_neg (by omega)]

theorem filledV_get (f : Nat → Value) (z : Value) (n k j : Nat) (hj : j < k) (hn : j < n) : (filledV f z n k)[j]? = some (f j) := by
  simp [filledV, hj, hn]

/-- The cells that an append from such a slice takes. -/
theorem RdS.news {w : World} {x : Addr} {n : Nat} {ss : List ByteArray} (h : RdS w (some x) n ss) : ∀ j u, (ss.map Value.string)[j]? = some u → w.cell? (x.add j) = some u := by
  intro j u hu
  have hj := (List.getElem?_eq_some_iff.1 hu).1
  simp only [List.length_map] at hj
  obtain ⟨b, off, e, hc⟩ := h.2 (by have := h.1; omega)
  simp only [Option.some.injEq] at e
  subst e
  rw [Addr.add_lit, hc j (by have := h.1; omega), ← hu]
  simp [List.getD, hj]

theorem strings_oneCell (ss : List ByteArray) : ∀ u ∈ ss.map Value.string, u.oneCell' = true := by
  intro u hu
  obtain ⟨_, _, rfl⟩ := List.mem_map.1 hu
  rfl

theorem RdS_of_owned {w : World} {base g n c : Nat} {ss : List ByteArray} (h : w.ownsRow base 9 1 (.slice (some ⟨g, 0, none⟩) n c) n (ss.map Value.string)) : RdS w (some ⟨g, 0, none⟩) n ss := by
  have hl : ss.length = n := by have := h.1; simpa using this
  refine ⟨hl, fun _ => ⟨g, 0, rfl, fun j hj => ?_⟩⟩
  rw [Nat.zero_add, h.cellAt j (by omega)]
  simp [List.getD, hl, hj]

/-- The value of an owned row that is not nil. -/
theorem owned_form {w : World} {base : Nat} {e : TypeId} {size n : Nat} {v : Value} {xs : List Value} (h : w.ownsRow base e size v n xs) (hv : v ≠ .slice none 0 0) : ∃ g c, v = .slice (some ⟨g, 0, none⟩) n c ∧ n ≤ c ∧ base ≤ g := by
  rcases h.2 with ⟨h', _⟩ | ⟨g, cap, cur, h', hb, _, hc, _⟩
  · exact absurd h' hv
  · exact ⟨g, cap, h', hc, hb⟩

/-- What is owned stays owned while nothing old turns. -/
theorem owned_later {w w' : World} {base : Nat} {e : TypeId} {size n : Nat} {v : Value} {xs : List Value} (h : w.ownsRow base e size v n xs) (hB : Below w.heap.size w w') : w'.ownsRow base e size v n xs := by
  refine ⟨h.1, ?_⟩
  rcases h.2 with hn | ⟨g, cap, cur, rfl, hb, hg, rest⟩
  · exact .inl hn
  · exact .inr ⟨g, cap, cur, rfl, hb, by rw [hB.block g (Array.getElem?_eq_some_iff.1 hg).1]; exact hg, rest⟩

theorem owned_block_lt {w : World} {base : Nat} {e : TypeId} {size n : Nat} {v : Value} {xs : List Value} (h : w.ownsRow base e size v n xs) (g : Nat) (hg : v.ownBlock = some g) : base ≤ g ∧ g < w.heap.size := by
  rcases h.2 with ⟨rfl, _⟩ | ⟨g', cap, cur, rfl, hb, hgg, _⟩
  · simp [Value.ownBlock] at hg
  · simp only [Value.ownBlock, Option.some.injEq] at hg
    subst hg
    exact ⟨hb, (Array.getElem?_eq_some_iff.1 hgg).1⟩

theorem made_strings (m : Nat) : (madeCells #[Value.string ⟨#[]⟩] m).toList = List.replicate m (.string ⟨#[]⟩) := toList_madeCells_one _ _
end Go.Proofs.Qxb6600025a
