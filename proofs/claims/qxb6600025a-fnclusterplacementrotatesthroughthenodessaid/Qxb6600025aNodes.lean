import Derived.Test.Qxb6600025aBase
namespace Go.Proofs.Qxb6600025a
set_option linter.unusedVariables false
set_option linter.unusedSimpArgs false
open Go.RowKit

/-- A row of N nodes that the call made, the first i of which bear their names. -/
def Nodes (w : World) (L N i : Nat) (nm : Nat → ByteArray) : Prop :=
  ∃ cs, w.ownsRow L 42 3 (.slice (some ⟨L, 0, none⟩) N N) N cs ∧ ∀ t, t < i → cs[t * 3]? = some (.string (nm t))

theorem Nodes.below {w w' : World} {L N i B : Nat} {nm : Nat → ByteArray} (h : Nodes w L N i nm) (hB : Below B w w') (hL : L < B) : Nodes w' L N i nm := by
  obtain ⟨cs, h1, h2⟩ := h
  exact ⟨cs, owned_below h1 hB hL, h2⟩

theorem Nodes.lt {w : World} {L N i : Nat} {nm : Nat → ByteArray} (h : Nodes w L N i nm) : L < w.heap.size := by
  obtain ⟨cs, h1, h2⟩ := h
  exact owned_lt h1

theorem Nodes.cell {w : World} {L N i : Nat} {nm : Nat → ByteArray} (h : Nodes w L N i nm) (t : Nat) (ht : t < i) (hN : t < N) : w.cell? ⟨L, t * 3, none⟩ = some (.string (nm t)) := by
  obtain ⟨cs, h1, h2⟩ := h
  rw [h1.cellAt (t * 3) (by omega)]
  exact h2 t ht

theorem Nodes.some {w : World} {L N i : Nat} {nm : Nat → ByteArray} (h : Nodes w L N i nm) (j : Nat) (hj : j < N * 3) : (∃ v, w.cell? ⟨L, j, none⟩ = some v) ∧ w.frozen? ⟨L, j, none⟩ = false := by
  obtain ⟨cs, h1, h2⟩ := h
  refine ⟨?_, h1.frozenAt j⟩
  rw [h1.cellAt j hj]
  exact ⟨_, List.getElem?_eq_getElem (by have := h1.1; omega)⟩

theorem Nodes.step {w : World} {L N i : Nat} {nm : Nat → ByteArray} (h : Nodes w L N i nm) (hi : i < N) (v1 v2 : Value) :
    Nodes (((w.setCell ⟨L, i * 3, none⟩ (.string (nm i))).setCell ⟨L, i * 3 + 1, none⟩ v1).setCell ⟨L, i * 3 + 2, none⟩ v2) L N (i + 1) nm := by
  obtain ⟨cs, h1, h2⟩ := h
  have a1 := (h1.stored (i * 3) (.string (nm i))).1
  have a2 := (a1.stored (i * 3 + 1) v1).1
  have a3 := (a2.stored (i * 3 + 2) v2).1
  refine ⟨_, a3, fun t ht => ?_⟩
  have hl : cs.length = N * 3 := h1.1
  rw [List.getElem?_set_ne (by omega), List.getElem?_set_ne (by omega)]
  by_cases e : t = i
  · subst e
    rw [List.getElem?_set_self (by omega)]
  · rw [List.getElem?_set_ne (by omega)]
    exact h2 t (by omega)
end Go.Proofs.Qxb6600025a
