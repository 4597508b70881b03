import Derived.Test.Qxb6000100aRows
import Derived.WalkKit
import Derived.WalkSpells
import Derived.BigQuiet
import Derived.Deep.QuietTactic
namespace Go.Proofs.Qxb6000100a
set_option linter.unusedVariables false
set_option linter.unusedSimpArgs false
open Go.RowKit

theorem Try.info5 : (Try.prog.info? 5).map (fun i => (i.zero, i.size, i.bytes)) = some (some (.int .u8 0), 1, 1) := by kernel_rfl

/-- The cells of a byte slice. -/
def Bytes (w : World) (b off : Nat) (zs : List Int) : Prop :=
  ∀ j, j < zs.length → w.cell? ⟨b, off + j, none⟩ = some (.int .u8 (zs.getD j 0))

/-- What the clone holds after k rounds. -/
def filled (zs : List Int) (k : Nat) : List Value := (List.range zs.length).map fun j => Value.int .u8 (if j < k then zs.getD j 0 else 0)

theorem filled_zero (zs : List Int) (n : Nat) (h : zs.length = n) : List.replicate n (Value.int .u8 0) = filled zs 0 := by
  subst h
  apply List.ext_getElem (by simp [filled])
  intro i h1 h2
  simp [filled]

theorem filled_all (zs : List Int) (n : Nat) (h : zs.length = n) : filled zs n = zs.map (Value.int .u8) := by
  subst h
  apply List.ext_getElem (by simp [filled])
  intro i h1 h2
  have h3 : i < zs.length := by simpa using h2
  simp [filled, h3]

theorem filled_set (zs : List Int) (k : Nat) : (filled zs k).set k (.int .u8 (zs.getD k 0)) = filled zs (k + 1) := by
  apply List.ext_getElem (by simp [filled])
  intro i h1 h2
  have h3 : i < zs.length := by simpa [filled] using h2
  simp only [filled, List.getElem_set, List.getElem_map, List.getElem_range]
  by_cases hk : k = i
  · subst hk
    simp
  · rw [if_neg hk]
    by_cases h4 : i < k
    · rw [if_pos h4, if_pos (by omega)]
    · rw [if_neg h4, if_neg (by omega)]

theorem bytes_of_owned {w : World} {B len cap base : Nat} {zs : List Int} (h : w.ownsRow base 5 1 (.slice (some ⟨B, 0, none⟩) len cap) len (zs.map (Value.int .u8))) (hl : zs.length = len) : Bytes w B 0 zs := by
  intro j hj
  have := h.cellAt j (by omega)
  rw [Nat.zero_add, this]
  simp [List.getD, hj]

theorem owned_lt {w : World} {base : Nat} {e : TypeId} {size g n cap : Nat} {xs : List Value} (h : w.ownsRow base e size (.slice (some ⟨g, 0, none⟩) n cap) n xs) : g < w.heap.size := by
  rcases h.2 with ⟨h', _⟩ | ⟨g', cap', cur, h', _, hg, _⟩
  · simp at h'
  · simp only [Value.slice.injEq, Option.some.injEq, Addr.mk.injEq, and_true, true_and] at h'
    obtain ⟨rfl, rfl⟩ := h'
    exact (Array.getElem?_eq_some_iff.1 hg).1

set_option maxHeartbeats 400000 in
theorem clone_nil (w : World) :
    Calls Try.prog 8 #[.slice none 0 0] w fun e w' => e = .returned (.slice none 0 0) ∧ w = w' := by
  have q22 : ∀ (w : World) (a : Option Addr) (n c n' c' : Nat), (binOp .eql 22 (.slice a n c) (.slice none n' c')).run Try.prog w = .ok (.bool a.isNone) w := fun w a n c n' c' => Lib.run_eql_slice_nil w _ _ a n c n' c' Try.underlying22
  go_enter Try.func8, Try.ntmps8
  go_wp2
  go_ret
  exact ⟨rfl, rfl⟩

set_option maxHeartbeats 400000 in
theorem clone_row (b off len cap : Nat) (zs : List Int) (w : World) (hz : zs.length = len) (hl : len ≤ 1048576) (hb : b < w.heap.size) (hc : Bytes w b off zs) :
    Calls Try.prog 8 #[.slice (some ⟨b, off, none⟩) len cap] w fun e w' => e = .returned (.slice (some ⟨w.heap.size, 0, none⟩) len len) ∧ Bytes w' w.heap.size 0 zs ∧ Below w.heap.size w w' ∧ w.heap.size < w'.heap.size := by
  have q22 : ∀ (w : World) (a : Option Addr) (n c n' c' : Nat), (binOp .eql 22 (.slice a n c) (.slice none n' c')).run Try.prog w = .ok (.bool a.isNone) w := fun w a n c n' c' => Lib.run_eql_slice_nil w _ _ a n c n' c' Try.underlying22
  obtain ⟨i0, hi, hz0, hz1, hz2⟩ := info_parts Try.info5
  go_enter Try.func8, Try.ntmps8
  go_wp2_with (first | (at_make; refine wpList_make_full _ rfl _ _ 22 rfl w.heap.size 5 i0 (.int .u8 0) 1 Try.underlying22 hi hz0 hz1 _ _ _ _ len rfl rfl rfl rfl (by rw [hz2]; omega) (by unfold maxLen; omega) (Nat.le_refl _) ?_))
  intro w1 hown hgrow
  have hB := (Below.refl w.heap.size w).grown hgrow (Nat.le_refl _) (by simp)
  rw [toList_madeCells_one, filled_zero zs len hz] at hown
  clear hgrow
  go_wp2
  go_loopw [4] (fun i wr => ∃ k : Nat, k ≤ len ∧ i = .int .i64 k ∧ wr.ownsRow w.heap.size 5 1 (.slice (some ⟨w.heap.size, 0, none⟩) len len) len (filled zs k) ∧ Below w.heap.size w wr) (fun i _ => len - (intOf i).toNat)
  case atStart => exact ⟨0, Nat.zero_le _, rfl, hown, hB⟩
  case round =>
    obtain ⟨k, hk, rfl, ho, hBr⟩ := hrel
    by_cases hlt : k < len
    · have g1 : wr.cell? ⟨b, off + k, none⟩ = some (.int .u8 (zs.getD k 0)) := (hBr.cell (by exact hb)).trans (hc k (by omega))
      have HF := filled_set zs k
      generalize zs.getD k 0 = c at g1 HF
      have g2 := ho.frozenAt k
      have g3 := ho.cellAt k (by omega)
      obtain ⟨v3, hv3⟩ : ∃ v, (filled zs k)[k]? = some v := ⟨_, List.getElem?_eq_getElem (by simp [filled]; omega)⟩
      rw [hv3] at g3
      have HS : Hid (World.ownsRow (wr.setCell ⟨w.heap.size, k, none⟩ (.int .u8 c)) w.heap.size 5 1 (.slice (some ⟨w.heap.size, 0, none⟩) len len) len (filled zs (k + 1))) := by
        have := (ho.stored k (.int .u8 c)).1
        rw [HF] at this
        exact this
      clear hv3 ho hc HF
      go_wp2
      go_roundw
      case rel => exact ⟨k + 1, by omega, by go_num, HS.out, hBr.setCell (Nat.le_refl _) _⟩
      case measure => simp [intOf]; omega
    · go_wp2
      go_ret
      obtain rfl : k = len := by omega
      rw [filled_all zs k hz] at ho
      exact ⟨rfl, bytes_of_owned ho hz, hBr, owned_lt ho⟩

set_option maxHeartbeats 400000 in
theorem clone_empty (x : Addr) (cap : Nat) (w : World) :
    Calls Try.prog 8 #[.slice (some x) 0 cap] w fun e w' => e = .returned (.slice (some ⟨w.heap.size, 0, none⟩) 0 0) ∧ Below w.heap.size w w' ∧ w.heap.size < w'.heap.size := by
  have q22 : ∀ (w : World) (a : Option Addr) (n c n' c' : Nat), (binOp .eql 22 (.slice a n c) (.slice none n' c')).run Try.prog w = .ok (.bool a.isNone) w := fun w a n c n' c' => Lib.run_eql_slice_nil w _ _ a n c n' c' Try.underlying22
  obtain ⟨i0, hi, hz0, hz1, hz2⟩ := info_parts Try.info5
  go_enter Try.func8, Try.ntmps8
  go_wp2_with (first | (at_make; refine wpList_make_full _ rfl _ _ 22 rfl w.heap.size 5 i0 (.int .u8 0) 1 Try.underlying22 hi hz0 hz1 _ _ _ _ 0 rfl rfl rfl rfl (by rw [hz2]; omega) (by unfold maxLen; omega) (Nat.le_refl _) ?_))
  intro w1 hown hgrow
  have hB := (Below.refl w.heap.size w).grown hgrow (Nat.le_refl _) (by simp)
  have hlt := owned_lt hown
  clear hgrow hown
  go_wp2
  go_loop [4] (fun i => i = .int .i64 0) (fun _ => 0)
  case atStart => exact rfl
  case round =>
    subst hrel
    go_wp2
    go_ret
    exact ⟨rfl, hB, hlt⟩

/-- What is told of a byte slice that came in (the shells' own words). -/
def Row (w : World) (a : Option Addr) (len cap : Nat) (zs : List Int) : Prop :=
  (a = none ∧ len = 0 ∧ cap = 0 ∧ zs = []) ∨
  ∃ x, a = some x ∧ len ≤ cap ∧ cap ≤ maxLen ∧ zs.length = cap ∧ (∀ i, i < zs.length → w.cell? (x.add i) = some (.int .u8 (zs.getD i 0))) ∧ ∀ n ∈ zs, (Lit.int .u8 n).wf = true

theorem Row.length {w : World} {a : Option Addr} {len cap : Nat} {zs : List Int} (h : Row w a len cap zs) : (zs.take len).length = len := by
  rcases h with ⟨_, rfl, _, rfl⟩ | ⟨x, _, h1, _, h2, _⟩
  · rfl
  · rw [List.length_take]; omega

theorem getD_take (zs : List Int) (n j : Nat) (h : j < n) : (zs.take n).getD j 0 = zs.getD j 0 := by
  simp [List.getD, List.getElem?_take, h]

theorem clone_any (a : Option Addr) (len cap : Nat) (zs : List Int) (w : World) (h : Row w a len cap zs) (hl : len ≤ 1048576) :
    Calls Try.prog 8 #[.slice a len cap] w fun e w' => Below w.heap.size w w' ∧ ((e = .returned (.slice none 0 0) ∧ len = 0) ∨ (e = .returned (.slice (some ⟨w.heap.size, 0, none⟩) len len) ∧ w.heap.size < w'.heap.size ∧ Bytes w' w.heap.size 0 (zs.take len))) := by
  have hlen := h.length
  rcases h with ⟨rfl, rfl, rfl, rfl⟩ | ⟨x, rfl, h1, h2, h3, h4, h5⟩
  · refine (clone_nil w).mono ?_
    rintro e w' ⟨rfl, rfl⟩
    exact ⟨Below.refl _ _, .inl ⟨rfl, rfl⟩⟩
  · by_cases h0 : len = 0
    · subst h0
      refine (clone_empty x cap w).mono ?_
      rintro e w' ⟨rfl, hb, hs⟩
      exact ⟨hb, .inr ⟨rfl, hs, fun j hj => by simp at hj⟩⟩
    · obtain ⟨b, off, spot⟩ := x
      have hs : spot = none := by simpa [Addr.add] using World.cell?_spot (h4 0 (by omega))
      subst hs
      have hB : b < w.heap.size := World.block_lt_of_cell? _ _ (h4 0 (by omega))
      refine (clone_row b off len cap (zs.take len) w hlen hl hB ?_).mono ?_
      · intro j hj
        have := h4 j (by omega)
        rw [Addr.add_lit] at this
        rw [this, getD_take zs len j (by omega)]
      · rintro e w' ⟨rfl, hc, hb, hs⟩
        exact ⟨hb, .inr ⟨rfl, hs, hc⟩⟩
end Go.Proofs.Qxb6000100a
