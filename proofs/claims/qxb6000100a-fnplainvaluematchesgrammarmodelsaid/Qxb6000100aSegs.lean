import Derived.Test.Qxb6000100aClone
namespace Go.Proofs.Qxb6000100a
set_option linter.unusedVariables false
set_option linter.unusedSimpArgs false
open Go.RowKit

theorem Bytes.later {w w' : World} {B b off : Nat} {zs : List Int} (h : Bytes w b off zs) (hB : Below B w w') (hb : b < B) : Bytes w' b off zs :=
  fun j hj => (hB.cell (by exact hb)).trans (h j hj)

theorem seg_cells {w : World} {b : Nat} {zs : List Int} (h : Bytes w b 0 zs) (i m : Nat) :
    ∀ t u, (((zs.drop i).take m).map (Value.int .u8))[t]? = some u → w.cell? (Addr.add ⟨b, i, none⟩ t) = some u := by
  intro t u hu
  have ht := (List.getElem?_eq_some_iff.1 hu).1
  simp only [List.length_map, List.length_take, List.length_drop] at ht
  rw [Addr.add_lit]
  have := h (i + t) (by omega)
  rw [Nat.zero_add] at this
  rw [this, ← hu]
  simp [List.getD, List.getElem?_take, show t < m by omega, show i + t < zs.length by omega]

theorem drop_cells {w : World} {b len : Nat} {zs : List Int} (h : Bytes w b 0 zs) (hl : zs.length = len) (i : Nat) {ao : Option Addr} (hao : ¬ len = i → ao = some ⟨b, i, none⟩) :
    ∀ ad, ao = some ad → ∀ t u, ((zs.drop i).map (Value.int .u8))[t]? = some u → w.cell? (ad.add t) = some u := by
  intro ad had t u hu
  have ht := (List.getElem?_eq_some_iff.1 hu).1
  simp only [List.length_map, List.length_drop] at ht
  rw [hao (by omega)] at had
  obtain rfl := Option.some.inj had
  refine seg_cells h i (zs.length - i) t u ?_
  rw [List.take_of_length_le (by simp)]
  exact hu

theorem Bytes.seg {w : World} {b off : Nat} {zs : List Int} (h : Bytes w b off zs) (i m : Nat) : Bytes w b (off + i) ((zs.drop i).take m) := by
  intro j hj
  simp only [List.length_take, List.length_drop] at hj
  have := h (i + j) (by omega)
  rw [Nat.add_assoc, this]
  simp [List.getD, List.getElem?_take, show j < m by omega]

end Go.Proofs.Qxb6000100a
