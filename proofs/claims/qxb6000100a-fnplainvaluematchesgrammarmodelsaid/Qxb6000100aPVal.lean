import Derived.Test.Qxb6000100aPStr
import Derived.Test.Qxb6000100aSegs
import Derived.Test.Qxb6000100aVal
namespace Go.Proofs.Qxb6000100a
set_option linter.unusedVariables false
set_option linter.unusedSimpArgs false
open Go.RowKit

set_option maxHeartbeats 400000 in
theorem v_end (a : Option Addr) (len cap : Nat) (w : World) :
    Calls Try.prog 18 #[.slice a len cap, .int .i64 len] w fun e w' => e = .returned (.tuple #[.slice none 0 0, .int .i64 (-1)]) ∧ Below w.heap.size w w' := by
  have n1 : ((len : Int) == (len : Int)) = true := by simp
  go_enter Try.func18, Try.ntmps18
  go_wp2
  go_ret2
  exact ⟨rfl, Below.refl _ _⟩

set_option maxHeartbeats 400000 in
theorem v_str (b off len cap i j : Nat) (zs : List Int) (w : World) (hz : zs.length = len) (hl : len ≤ 1048576) (hlc : len ≤ cap) (hc : Bytes w b off zs) (h : IsStr zs i j) :
    Calls Try.prog 18 #[.slice (some ⟨b, off, none⟩) len cap, .int .i64 i] w fun e w' => e = .returned (.tuple #[.slice (some ⟨b, off + i, none⟩) (j + 1 - i) (cap - i), .int .i64 ((j : Int) + 1)]) ∧ Below w.heap.size w w' := by
  have hP := pstr_some b off len cap i j _ zs w hz hl hlc hc h rfl
  obtain ⟨a1, a2, a3, a4, a5⟩ := h
  have c0 := hc i (by omega)
  rw [a3] at c0
  have n1 : ((i : Int) == (len : Int)) = false := beq_eq_false_iff_ne.2 (by omega)
  have n2 : (i : Int) < len := by omega
  have n3 : ¬ cap = i := by omega
  clear hc a3 a4 a5
  go_enter Try.func18, Try.ntmps18
  go_wp2_with fail
  refine hP.mono ?_
  clear hP
  rintro e w' ⟨rfl, rfl⟩
  go_wp2
  go_ret2
  exact ⟨rfl, Below.refl _ _⟩

set_option maxHeartbeats 400000 in
theorem v_str_none (b off len cap i : Nat) (zs : List Int) (w : World) (hz : zs.length = len) (hi : i < len) (hl : len ≤ 1048576) (hc : Bytes w b off zs) (hq : zs.getD i 0 = 34) (h : ∀ j, ¬ IsStr zs i j) :
    Calls Try.prog 18 #[.slice (some ⟨b, off, none⟩) len cap, .int .i64 i] w fun e w' => e = .returned (.tuple #[.slice none 0 0, .int .i64 (-1)]) ∧ Below w.heap.size w w' := by
  have hP := pstr_none b off len cap i zs w hz (by omega) hl hc h
  have c0 := hc i (by omega)
  rw [hq] at c0
  have n1 : ((i : Int) == (len : Int)) = false := beq_eq_false_iff_ne.2 (by omega)
  have n2 : (i : Int) < len := by omega
  clear hc hq h
  go_enter Try.func18, Try.ntmps18
  go_wp2_with fail
  refine hP.mono ?_
  clear hP
  rintro e w' ⟨rfl, rfl⟩
  go_wp2
  go_ret2
  exact ⟨rfl, Below.refl _ _⟩

set_option maxHeartbeats 400000 in
theorem v_zero (b off len cap i : Nat) (w : World) (hi : i < len) (hl : len ≤ 1048576) (hlc : len ≤ cap) (c0 : w.cell? ⟨b, off + i, none⟩ = some (.int .u8 48)) :
    Calls Try.prog 18 #[.slice (some ⟨b, off, none⟩) len cap, .int .i64 i] w fun e w' => e = .returned (.tuple #[.slice (some ⟨b, off + i, none⟩) 1 (cap - i), .int .i64 ((i : Int) + 1)]) ∧ Below w.heap.size w w' := by
  have n1 : ((i : Int) == (len : Int)) = false := beq_eq_false_iff_ne.2 (by omega)
  have n2 : (i : Int) < len := by omega
  have n3 : ¬ cap = i := by omega
  have n4 : i + 1 - i = 1 := by omega
  go_enter Try.func18, Try.ntmps18
  go_wp2
  go_ret2
  exact ⟨rfl, Below.refl _ _⟩

set_option maxHeartbeats 800000 in
theorem v_num (b off len cap i m : Nat) (zs : List Int) (w : World) (hz : zs.length = len) (hl : len ≤ 1048576) (hlc : len ≤ cap) (hc : Bytes w b off zs) (h1 : 49 ≤ zs.getD i 0) (h2 : zs.getD i 0 ≤ 57) (h : IsNum zs i m) :
    Calls Try.prog 18 #[.slice (some ⟨b, off, none⟩) len cap, .int .i64 i] w fun e w' => e = .returned (.tuple #[.slice (some ⟨b, off + i, none⟩) (m - i) (cap - i), .int .i64 (m : Int)]) ∧ Below w.heap.size w w' := by
  obtain ⟨a1, a2, a3, a4⟩ := h
  have c0 := hc i (by omega)
  generalize zs.getD i 0 = c at c0 h1 h2
  have n1 : ((i : Int) == (len : Int)) = false := beq_eq_false_iff_ne.2 (by omega)
  have n2 : (i : Int) < len := by omega
  have n3 : ¬ cap = i := by omega
  have e1 : (c == 34) = false := beq_eq_false_iff_ne.2 (by omega)
  have e2 : (c == 48) = false := beq_eq_false_iff_ne.2 (by omega)
  have e3 : decide (49 ≤ c) = true := decide_eq_true h1
  have e4 : decide (c ≤ 57) = true := decide_eq_true h2
  have HC : Hid (Bytes w b off zs) := hc
  have HA : Hid (∀ t, i < t → t < m → Dig (zs.getD t 0)) := a3
  have HN : Hid (m < zs.length → ¬ Dig (zs.getD m 0)) := a4
  clear hc a3 a4
  go_enter Try.func18, Try.ntmps18
  go_wp2
  go_loop [5] (fun i' => ∃ k : Nat, i + 1 ≤ k ∧ k ≤ m ∧ i' = .int .i64 k) (fun i' => len - (intOf i').toNat)
  case atStart => exact ⟨i + 1, by omega, by omega, by go_num⟩
  case round =>
    obtain ⟨k, hk, hkm, rfl⟩ := hrel
    by_cases hlt : k < m
    · have ck := HC.out k (by omega)
      obtain ⟨g1, g2⟩ := HA.out k (by omega) hlt
      generalize zs.getD k 0 = x at ck g1 g2
      have d1 : decide ((k : Int) < len) = true := decide_eq_true (by omega)
      have d2 : decide (48 ≤ x) = true := decide_eq_true g1
      have d3 : decide (x ≤ 57) = true := decide_eq_true g2
      go_wp2
      go_round
      case rel => exact ⟨k + 1, by omega, by omega, by go_num⟩
      case measure => simp [intOf]; omega
    · obtain rfl : k = m := by omega
      by_cases hkl : k < len
      · have ck := HC.out k (by omega)
        have hnd := HN.out (by omega)
        generalize zs.getD k 0 = x at ck hnd
        have d1 : decide ((k : Int) < len) = true := decide_eq_true (by omega)
        by_cases x1 : 48 ≤ x
        · have d2 : decide (48 ≤ x) = true := decide_eq_true x1
          have d3 : decide (x ≤ 57) = false := decide_eq_false (fun x2 => hnd ⟨x1, x2⟩)
          clear hnd
          go_wp2
          go_ret2
          exact ⟨rfl, Below.refl _ _⟩
        · have d2 : decide (48 ≤ x) = false := decide_eq_false x1
          clear hnd
          go_wp2
          go_ret2
          exact ⟨rfl, Below.refl _ _⟩
      · have d1 : decide ((k : Int) < len) = false := decide_eq_false (by omega)
        go_wp2
        go_ret2
        exact ⟨rfl, Below.refl _ _⟩
end Go.Proofs.Qxb6000100a
