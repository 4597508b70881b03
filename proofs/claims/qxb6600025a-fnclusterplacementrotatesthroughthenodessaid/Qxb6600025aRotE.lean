import Derived.Test.Qxb6600025aNext
import Derived.Test.Qxb6600025aPlace
import Derived.Test.Qxb6600025aNodes
import Derived.Test.Qxb6600025aSizes
namespace Go.Proofs.Qxb6600025a
set_option linter.unusedVariables false
set_option linter.unusedSimpArgs false
open Go.RowKit

set_option maxRecDepth 100000 in
set_option maxHeartbeats 3200000 in
theorem ro_out (r b : Int) (a : Option Addr) (N c : Nat) (ss : List ByteArray) (w : World) (hn : N ≤ maxLen) (hnc : N ≤ c) (hnil : a = none → c = 0) (h : RdS w a N ss) (hs : Short ss) (hE : r < 0 ∨ 65536 < r ∨ b < 0 ∨ 65536 < b) :
    Calls Try.prog 6 #[.int .i64 r, .int .i64 b, .slice a N c] w fun e w' => e = .returned (.bool true) ∧ Below w.heap.size w w' := by
  have q24 : ∀ (w : World) (a : Option Addr) (n c n' c' : Nat), (binOp .neq 24 (.slice a n c) (.slice none n' c')).run Try.prog w = .ok (.bool (!a.isNone)) w := fun w a n c n' c' => run_neq_slice_nil_any w _ _ a n c n' c' Try.underlying24
  have q23 : ∀ (w : World) (a : Option Addr) (n c n' c' : Nat), (binOp .neq 23 (.slice a n c) (.slice none n' c')).run Try.prog w = .ok (.bool (!a.isNone)) w := fun w a n c n' c' => run_neq_slice_nil_any w _ _ a n c n' c' Try.underlying23
  obtain ⟨i42, hi42, hz42, hs42, hb42⟩ := info_parts Try.info42
  have HR : Hid (RdS w a N ss) := h
  have HS : Hid (Short ss) := hs
  have HNIL : Hid (a = none → c = 0) := hnil
  have hB20 := bytes20 r b a N c ss w hn h hs
  clear h hs hnil
  unfold maxLen at hn
  go_enter Try.func6, Try.ntmps6
  go_wp2_with fail
  refine hB20.mono ?_
  clear hB20
  rintro e w' ⟨⟨rfl, hN1⟩ | rfl, rfl⟩
  case inr =>
    go_wp2
    go_ret
    exact ⟨rfl, Below.refl _ _⟩
  by_cases hN2 : 65536 < N
  · have d1 : decide ((65536 : Int) < N) = true := decide_eq_true (by omega)
    go_wp2
    go_ret
    exact ⟨rfl, Below.refl _ _⟩
  have d1 : decide ((65536 : Int) < N) = false := decide_eq_false (by omega)
  have hT := text_any a N c ss w hN1 HR.out HS.out
  go_wp2_with fail
  refine hT.mono ?_
  clear hT
  rintro e w' ⟨⟨t, rfl, ht0, ht1⟩, rfl⟩
  by_cases ht2 : 1048576 < t
  · have d2 : decide ((1048576 : Int) < t) = true := decide_eq_true ht2
    go_wp2
    go_ret
    exact ⟨rfl, Below.refl _ _⟩
  have d2 : decide ((1048576 : Int) < t) = false := decide_eq_false ht2
  by_cases h1 : r < 0
  · have d3 : decide (r < 0) = true := decide_eq_true h1
    go_wp2
    go_ret
    exact ⟨rfl, Below.refl _ _⟩
  have d3 : decide (r < 0) = false := decide_eq_false h1
  by_cases h2 : 65536 < r
  · have d4 : decide (65536 < r) = true := decide_eq_true h2
    go_wp2
    go_ret
    exact ⟨rfl, Below.refl _ _⟩
  have d4 : decide (65536 < r) = false := decide_eq_false h2
  by_cases h3 : b < 0
  · have d5 : decide (b < 0) = true := decide_eq_true h3
    go_wp2
    go_ret
    exact ⟨rfl, Below.refl _ _⟩
  have d5 : decide (b < 0) = false := decide_eq_false h3
  by_cases h4 : 65536 < b
  · have d6 : decide (65536 < b) = true := decide_eq_true h4
    go_wp2
    go_ret
    exact ⟨rfl, Below.refl _ _⟩
  exfalso
  rcases hE with h | h | h | h
  · exact h1 h
  · exact h2 h
  · exact h3 h
  · exact h4 h

set_option maxRecDepth 100000 in
set_option maxHeartbeats 3200000 in
theorem ro_div (R K : Nat) (a : Option Addr) (N c : Nat) (ss : List ByteArray) (w : World) (hn : N ≤ maxLen) (hnc : N ≤ c) (hnil : a = none → c = 0) (h : RdS w a N ss) (hs : Short ss) (hR : R ≤ 65536) (hK : K ≤ 65536) (hR0 : 0 < R) (d8 : decide ((1048576 : Int) / R < 1 + K) = true) :
    Calls Try.prog 6 #[.int .i64 R, .int .i64 K, .slice a N c] w fun e w' => e = .returned (.bool true) ∧ Below w.heap.size w w' := by
  have q24 : ∀ (w : World) (a : Option Addr) (n c n' c' : Nat), (binOp .neq 24 (.slice a n c) (.slice none n' c')).run Try.prog w = .ok (.bool (!a.isNone)) w := fun w a n c n' c' => run_neq_slice_nil_any w _ _ a n c n' c' Try.underlying24
  have q23 : ∀ (w : World) (a : Option Addr) (n c n' c' : Nat), (binOp .neq 23 (.slice a n c) (.slice none n' c')).run Try.prog w = .ok (.bool (!a.isNone)) w := fun w a n c n' c' => run_neq_slice_nil_any w _ _ a n c n' c' Try.underlying23
  obtain ⟨i42, hi42, hz42, hs42, hb42⟩ := info_parts Try.info42
  have HR : Hid (RdS w a N ss) := h
  have HS : Hid (Short ss) := hs
  have HNIL : Hid (a = none → c = 0) := hnil
  have hB20 := bytes20 R K a N c ss w hn h hs
  clear h hs hnil
  unfold maxLen at hn
  go_enter Try.func6, Try.ntmps6
  go_wp2_with fail
  refine hB20.mono ?_
  clear hB20
  rintro e w' ⟨⟨rfl, hN1⟩ | rfl, rfl⟩
  case inr =>
    go_wp2
    go_ret
    exact ⟨rfl, Below.refl _ _⟩
  by_cases hN2 : 65536 < N
  · have d1 : decide ((65536 : Int) < N) = true := decide_eq_true (by omega)
    go_wp2
    go_ret
    exact ⟨rfl, Below.refl _ _⟩
  have d1 : decide ((65536 : Int) < N) = false := decide_eq_false (by omega)
  have hT := text_any a N c ss w hN1 HR.out HS.out
  go_wp2_with fail
  refine hT.mono ?_
  clear hT
  rintro e w' ⟨⟨t, rfl, ht0, ht1⟩, rfl⟩
  by_cases ht2 : 1048576 < t
  · have d2 : decide ((1048576 : Int) < t) = true := decide_eq_true ht2
    go_wp2
    go_ret
    exact ⟨rfl, Below.refl _ _⟩
  have d2 : decide ((1048576 : Int) < t) = false := decide_eq_false ht2
  have d3 : decide ((R : Int) < 0) = false := decide_eq_false (by omega)
  have d4 : decide ((65536 : Int) < R) = false := decide_eq_false (by omega)
  have d5 : decide ((K : Int) < 0) = false := decide_eq_false (by omega)
  have d6 : decide ((65536 : Int) < K) = false := decide_eq_false (by omega)
  have d7 : decide ((0 : Int) < R) = true := decide_eq_true (by omega)
  have hR0' : (0 : Int) < R := by omega
  go_wp2
  go_ret
  exact ⟨rfl, Below.refl _ _⟩

set_option maxRecDepth 100000 in
set_option maxHeartbeats 3200000 in
theorem ro_empty (R K : Nat) (a : Option Addr) (N c : Nat) (ss : List ByteArray) (w : World) (hn : N ≤ maxLen) (hnc : N ≤ c) (hnil : a = none → c = 0) (h : RdS w a N ss) (hs : Short ss) (hR : R ≤ 65536) (hK : K ≤ 65536) (hR0 : 0 < R) (d8 : decide ((1048576 : Int) / R < 1 + K) = false) (hN0 : N ≤ 0) :
    Calls Try.prog 6 #[.int .i64 R, .int .i64 K, .slice a N c] w fun e w' => e = .returned (.bool true) ∧ Below w.heap.size w w' := by
  have q24 : ∀ (w : World) (a : Option Addr) (n c n' c' : Nat), (binOp .neq 24 (.slice a n c) (.slice none n' c')).run Try.prog w = .ok (.bool (!a.isNone)) w := fun w a n c n' c' => run_neq_slice_nil_any w _ _ a n c n' c' Try.underlying24
  have q23 : ∀ (w : World) (a : Option Addr) (n c n' c' : Nat), (binOp .neq 23 (.slice a n c) (.slice none n' c')).run Try.prog w = .ok (.bool (!a.isNone)) w := fun w a n c n' c' => run_neq_slice_nil_any w _ _ a n c n' c' Try.underlying23
  obtain ⟨i42, hi42, hz42, hs42, hb42⟩ := info_parts Try.info42
  have HR : Hid (RdS w a N ss) := h
  have HS : Hid (Short ss) := hs
  have HNIL : Hid (a = none → c = 0) := hnil
  have hB20 := bytes20 R K a N c ss w hn h hs
  clear h hs hnil
  unfold maxLen at hn
  go_enter Try.func6, Try.ntmps6
  go_wp2_with fail
  refine hB20.mono ?_
  clear hB20
  rintro e w' ⟨⟨rfl, hN1⟩ | rfl, rfl⟩
  case inr =>
    go_wp2
    go_ret
    exact ⟨rfl, Below.refl _ _⟩
  by_cases hN2 : 65536 < N
  · have d1 : decide ((65536 : Int) < N) = true := decide_eq_true (by omega)
    go_wp2
    go_ret
    exact ⟨rfl, Below.refl _ _⟩
  have d1 : decide ((65536 : Int) < N) = false := decide_eq_false (by omega)
  have hT := text_any a N c ss w hN1 HR.out HS.out
  go_wp2_with fail
  refine hT.mono ?_
  clear hT
  rintro e w' ⟨⟨t, rfl, ht0, ht1⟩, rfl⟩
  by_cases ht2 : 1048576 < t
  · have d2 : decide ((1048576 : Int) < t) = true := decide_eq_true ht2
    go_wp2
    go_ret
    exact ⟨rfl, Below.refl _ _⟩
  have d2 : decide ((1048576 : Int) < t) = false := decide_eq_false ht2
  have d3 : decide ((R : Int) < 0) = false := decide_eq_false (by omega)
  have d4 : decide ((65536 : Int) < R) = false := decide_eq_false (by omega)
  have d5 : decide ((K : Int) < 0) = false := decide_eq_false (by omega)
  have d6 : decide ((65536 : Int) < K) = false := decide_eq_false (by omega)
  have d7 : decide ((0 : Int) < R) = true := decide_eq_true (by omega)
  have hR0' : (0 : Int) < R := by omega
  have d9 : ((N : Int) == 0) = true := beq_iff_eq.2 (by omega)

  go_wp2
  go_ret
  exact ⟨rfl, Below.refl _ _⟩
end Go.Proofs.Qxb6600025a
