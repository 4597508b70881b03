import Derived.Test.Qxb6600025aSprZ
namespace Go.Proofs.Qxb6600025a
set_option linter.unusedVariables false
set_option linter.unusedSimpArgs false
open Go.RowKit

set_option maxRecDepth 100000 in
set_option maxHeartbeats 400000 in
theorem sp_e1 (a0 a1 a2 : Int) (w : World) (h : a2 < 1) :
    Calls Try.prog 7 #[.int .i64 a0, .int .i64 a1, .int .i64 a2] w fun e w' => e = .returned (.bool true) ∧ Below w.heap.size w w' := by
  have d1 : decide (a2 < 1) = true := decide_eq_true h
  go_enter Try.func7, Try.ntmps7
  go_wp2
  go_ret
  exact ⟨rfl, Below.refl _ _⟩

set_option maxRecDepth 100000 in
set_option maxHeartbeats 400000 in
theorem sp_e2 (a0 a1 a2 : Int) (w : World) (h0 : ¬ a2 < 1) (h : 65536 < a2) :
    Calls Try.prog 7 #[.int .i64 a0, .int .i64 a1, .int .i64 a2] w fun e w' => e = .returned (.bool true) ∧ Below w.heap.size w w' := by
  have d1 : decide (a2 < 1) = false := decide_eq_false h0
  have d2 : decide (65536 < a2) = true := decide_eq_true h
  go_enter Try.func7, Try.ntmps7
  go_wp2
  go_ret
  exact ⟨rfl, Below.refl _ _⟩

set_option maxRecDepth 100000 in
set_option maxHeartbeats 400000 in
theorem sp_e3 (a0 a1 a2 : Int) (w : World) (h0 : ¬ a2 < 1) (h1 : ¬ 65536 < a2) (h : a0 < 0) :
    Calls Try.prog 7 #[.int .i64 a0, .int .i64 a1, .int .i64 a2] w fun e w' => e = .returned (.bool true) ∧ Below w.heap.size w w' := by
  have d1 : decide (a2 < 1) = false := decide_eq_false h0
  have d2 : decide (65536 < a2) = false := decide_eq_false h1
  have d3 : decide (a0 < 0) = true := decide_eq_true h
  go_enter Try.func7, Try.ntmps7
  go_wp2
  go_ret
  exact ⟨rfl, Below.refl _ _⟩

set_option maxRecDepth 100000 in
set_option maxHeartbeats 400000 in
theorem sp_e4 (a0 a1 a2 : Int) (w : World) (h0 : ¬ a2 < 1) (h1 : ¬ 65536 < a2) (h2 : ¬ a0 < 0) (h : 65536 < a0) :
    Calls Try.prog 7 #[.int .i64 a0, .int .i64 a1, .int .i64 a2] w fun e w' => e = .returned (.bool true) ∧ Below w.heap.size w w' := by
  have d1 : decide (a2 < 1) = false := decide_eq_false h0
  have d2 : decide (65536 < a2) = false := decide_eq_false h1
  have d3 : decide (a0 < 0) = false := decide_eq_false h2
  have d4 : decide (65536 < a0) = true := decide_eq_true h
  go_enter Try.func7, Try.ntmps7
  go_wp2
  go_ret
  exact ⟨rfl, Below.refl _ _⟩

set_option maxRecDepth 100000 in
set_option maxHeartbeats 400000 in
theorem sp_e5 (a0 a1 a2 : Int) (w : World) (h0 : ¬ a2 < 1) (h1 : ¬ 65536 < a2) (h2 : ¬ a0 < 0) (h3 : ¬ 65536 < a0) (h : a1 < 0) :
    Calls Try.prog 7 #[.int .i64 a0, .int .i64 a1, .int .i64 a2] w fun e w' => e = .returned (.bool true) ∧ Below w.heap.size w w' := by
  have d1 : decide (a2 < 1) = false := decide_eq_false h0
  have d2 : decide (65536 < a2) = false := decide_eq_false h1
  have d3 : decide (a0 < 0) = false := decide_eq_false h2
  have d4 : decide (65536 < a0) = false := decide_eq_false h3
  have d5 : decide (a1 < 0) = true := decide_eq_true h
  go_enter Try.func7, Try.ntmps7
  go_wp2
  go_ret
  exact ⟨rfl, Below.refl _ _⟩

set_option maxRecDepth 100000 in
set_option maxHeartbeats 400000 in
theorem sp_e6 (a0 a1 a2 : Int) (w : World) (h0 : ¬ a2 < 1) (h1 : ¬ 65536 < a2) (h2 : ¬ a0 < 0) (h3 : ¬ 65536 < a0) (h4 : ¬ a1 < 0) (h : a2 ≤ a1) :
    Calls Try.prog 7 #[.int .i64 a0, .int .i64 a1, .int .i64 a2] w fun e w' => e = .returned (.bool true) ∧ Below w.heap.size w w' := by
  have d1 : decide (a2 < 1) = false := decide_eq_false h0
  have d2 : decide (65536 < a2) = false := decide_eq_false h1
  have d3 : decide (a0 < 0) = false := decide_eq_false h2
  have d4 : decide (65536 < a0) = false := decide_eq_false h3
  have d5 : decide (a1 < 0) = false := decide_eq_false h4
  have d6 : decide (a2 ≤ a1) = true := decide_eq_true h
  go_enter Try.func7, Try.ntmps7
  go_wp2
  go_ret
  exact ⟨rfl, Below.refl _ _⟩

set_option maxRecDepth 100000 in
set_option maxHeartbeats 400000 in
theorem sp_e7 (n bk N : Nat) (w : World) (hn : n ≤ 65536) (hN : 1 ≤ N) (hN2 : N ≤ 65536) (hbk : bk < N) (hn0 : (0 : Int) < n) (d8 : decide ((1048576 : Int) / n < 1 + bk) = true) :
    Calls Try.prog 7 #[.int .i64 n, .int .i64 bk, .int .i64 N] w fun e w' => e = .returned (.bool true) ∧ Below w.heap.size w w' := by
  have d1 : decide ((N : Int) < 1) = false := decide_eq_false (by omega)
  have d2 : decide ((65536 : Int) < N) = false := decide_eq_false (by omega)
  have d3 : decide ((n : Int) < 0) = false := decide_eq_false (by omega)
  have d4 : decide ((65536 : Int) < n) = false := decide_eq_false (by omega)
  have d5 : decide ((bk : Int) < 0) = false := decide_eq_false (by omega)
  have d6 : decide ((N : Int) ≤ bk) = false := decide_eq_false (by omega)
  have d7 : decide ((0 : Int) < n) = true := decide_eq_true hn0
  go_enter Try.func7, Try.ntmps7
  go_wp2
  go_ret
  exact ⟨rfl, Below.refl _ _⟩

theorem sp_any (a0 a1 a2 : Int) (w : World) :
    Calls Try.prog 7 #[.int .i64 a0, .int .i64 a1, .int .i64 a2] w fun e w' => e = .returned (.bool true) ∧ Below w.heap.size w w' := by
  by_cases h0 : a2 < 1
  · exact sp_e1 a0 a1 a2 w h0
  by_cases h1 : 65536 < a2
  · exact sp_e2 a0 a1 a2 w h0 h1
  by_cases h2 : a0 < 0
  · exact sp_e3 a0 a1 a2 w h0 h1 h2
  by_cases h3 : 65536 < a0
  · exact sp_e4 a0 a1 a2 w h0 h1 h2 h3
  by_cases h4 : a1 < 0
  · exact sp_e5 a0 a1 a2 w h0 h1 h2 h3 h4
  by_cases h5 : a2 ≤ a1
  · exact sp_e6 a0 a1 a2 w h0 h1 h2 h3 h4 h5
  obtain ⟨n, rfl⟩ := Int.eq_ofNat_of_zero_le (show 0 ≤ a0 by omega)
  obtain ⟨bk, rfl⟩ := Int.eq_ofNat_of_zero_le (show 0 ≤ a1 by omega)
  obtain ⟨N, rfl⟩ := Int.eq_ofNat_of_zero_le (show 0 ≤ a2 by omega)
  by_cases h6 : n = 0
  · exact sp_zero n bk N w (by omega) (by omega) (by omega) (by omega) (by omega)
  by_cases h7 : (1048576 : Int) / n < 1 + bk
  · exact sp_e7 n bk N w (by omega) (by omega) (by omega) (by omega) (by omega) (decide_eq_true h7)
  · exact sp_pos n bk N w (by omega) (by omega) (by omega) (by omega) (by omega) (decide_eq_false h7)
end Go.Proofs.Qxb6600025a
