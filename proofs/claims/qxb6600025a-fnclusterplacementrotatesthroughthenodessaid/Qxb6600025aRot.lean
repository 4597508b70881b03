import Derived.Test.Qxb6600025aRotP
namespace Go.Proofs.Qxb6600025a
set_option linter.unusedVariables false
open Go.RowKit

theorem ro_any (r b : Int) (a : Option Addr) (N c : Nat) (ss : List ByteArray) (w : World) (hn : N ≤ maxLen) (hnc : N ≤ c) (hnil : a = none → c = 0) (h : RdS w a N ss) (hs : Short ss) :
    Calls Try.prog 6 #[.int .i64 r, .int .i64 b, .slice a N c] w fun e w' => e = .returned (.bool true) ∧ Below w.heap.size w w' := by
  by_cases hE : r < 0 ∨ 65536 < r ∨ b < 0 ∨ 65536 < b
  · exact ro_out r b a N c ss w hn hnc hnil h hs hE
  obtain ⟨R, rfl⟩ := Int.eq_ofNat_of_zero_le (show 0 ≤ r by omega)
  obtain ⟨K, rfl⟩ := Int.eq_ofNat_of_zero_le (show 0 ≤ b by omega)
  by_cases hR0 : 0 < R
  · by_cases hd : (1048576 : Int) / R < 1 + K
    · exact ro_div R K a N c ss w hn hnc hnil h hs (by omega) (by omega) hR0 (decide_eq_true hd)
    · by_cases hN0 : 0 < N
      · exact ro_pos R K a N c ss w hn hnc hnil h hs (by omega) (by omega) hR0 (decide_eq_false hd) hN0
      · exact ro_empty R K a N c ss w hn hnc hnil h hs (by omega) (by omega) hR0 (decide_eq_false hd) (by omega)
  · exact ro_zero R K a N c ss w hn hnc hnil h hs (by omega) (by omega) (by omega)
end Go.Proofs.Qxb6600025a
