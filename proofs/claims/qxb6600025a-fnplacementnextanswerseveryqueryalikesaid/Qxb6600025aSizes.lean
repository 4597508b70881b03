import Derived.Test.Qxb6600025aBase
namespace Go.Proofs.Qxb6600025a
set_option linter.unusedVariables false
set_option linter.unusedSimpArgs false
open Go.RowKit

/-- Strings as they can be read: none longer than an int says. -/
def Short (ss : List ByteArray) : Prop := ∀ j, (ss.getD j ByteArray.empty).size ≤ maxLen

set_option maxHeartbeats 800000 in
/-- zzTextBytes: some number that is no great one; nothing turns. -/
theorem text_any (a : Option Addr) (n c : Nat) (ss : List ByteArray) (w : World) (hn : n ≤ 1048576) (h : RdS w a n ss) (hs : Short ss) :
    Calls Try.prog 21 #[.slice a n c] w fun e w' => (∃ t : Int, e = .returned (.int .i64 t) ∧ 0 ≤ t ∧ t ≤ 2097168) ∧ w = w' := by
  have HR : Hid (RdS w a n ss) := h
  have HS : Hid (Short ss) := hs
  clear h hs
  go_enter Try.func21, Try.ntmps21
  go_wp2
  go_loop [3, 4] (fun t' i' => ∃ (t : Int) (k : Nat), t' = .int .i64 t ∧ i' = .int .i64 k ∧ k ≤ n ∧ 0 ≤ t ∧ t ≤ 1048576) (fun _ i' => n - (intOf i').toNat)
  case atStart => exact ⟨0, 0, rfl, rfl, Nat.zero_le _, by omega, by omega⟩
  case round =>
    obtain ⟨t, k, rfl, rfl, hk, ht0, ht⟩ := hrel
    by_cases hlt : k < n
    · obtain ⟨b, off, e, hc⟩ := HR.out.2 (by omega)
      subst e
      have g1 := hc k hlt
      have g2 := HS.out k
      unfold maxLen at g2
      generalize ss.getD k ByteArray.empty = s at g1 g2
      clear hc
      have hlt' : (k : Int) < n := by omega
      by_cases h1 : 1048576 < s.size
      · have d1 : decide ((1048576 : Int) < s.size) = true := decide_eq_true (by omega)
        go_wp2
        go_ret
        exact ⟨⟨_, rfl, by omega, by omega⟩, rfl⟩
      · have d1 : decide ((1048576 : Int) < s.size) = false := decide_eq_false (by omega)
        by_cases h2 : 1048576 < t + (16 + (s.size : Int))
        · have d2 : decide ((1048576 : Int) < t + (16 + (s.size : Int))) = true := decide_eq_true h2
          go_wp2
          go_ret
          exact ⟨⟨_, rfl, by omega, by omega⟩, rfl⟩
        · have d2 : decide ((1048576 : Int) < t + (16 + (s.size : Int))) = false := decide_eq_false h2
          go_wp2
          go_round
          case rel => exact ⟨_, k + 1, rfl, by go_num, by omega, by omega, by omega⟩
          case measure => simp [intOf]; omega
    · go_wp2
      go_ret
      exact ⟨⟨t, rfl, ht0, by omega⟩, rfl⟩

set_option maxHeartbeats 800000 in
/-- zzBytes of three arguments: where it says true, the list is not long. -/
theorem bytes20 (r b : Int) (a : Option Addr) (n c : Nat) (ss : List ByteArray) (w : World) (hn : n ≤ maxLen) (h : RdS w a n ss) (hs : Short ss) :
    Calls Try.prog 20 #[.int .i64 r, .int .i64 b, .slice a n c] w fun e w' => ((e = .returned (.bool true) ∧ n ≤ 1048576) ∨ e = .returned (.bool false)) ∧ w = w' := by
  unfold maxLen at hn
  have HR : Hid (RdS w a n ss) := h
  have HS : Hid (Short ss) := hs
  clear h hs
  by_cases hbig : 1048576 < n
  · have d1 : decide ((1048576 : Int) < n) = true := decide_eq_true (by omega)
    go_enter Try.func20, Try.ntmps20
    go_wp2
    go_ret
    exact ⟨.inr rfl, rfl⟩
  · have d1 : decide ((1048576 : Int) < n) = false := decide_eq_false (by omega)
    go_enter Try.func20, Try.ntmps20
    go_wp2
    go_loop [7, 8] (fun t' i' => ∃ (t : Int) (k : Nat), t' = .int .i64 t ∧ i' = .int .i64 k ∧ k ≤ n ∧ 0 ≤ t ∧ t ≤ 1048576) (fun _ i' => n - (intOf i').toNat)
    case atStart => exact ⟨n, 0, rfl, rfl, Nat.zero_le _, by omega, by omega⟩
    case round =>
      obtain ⟨t, k, rfl, rfl, hk, ht0, ht⟩ := hrel
      by_cases hlt : k < n
      · obtain ⟨b, off, e, hc⟩ := HR.out.2 (by omega)
        subst e
        have g1 := hc k hlt
        have g2 := HS.out k
        unfold maxLen at g2
        generalize ss.getD k ByteArray.empty = s at g1 g2
        clear hc
        have hlt' : (k : Int) < n := by omega
        by_cases h1 : 1048576 < s.size
        · have d1 : decide ((1048576 : Int) < s.size) = true := decide_eq_true (by omega)
          go_wp2
          go_ret
          exact ⟨.inr rfl, rfl⟩
        · have d1 : decide ((1048576 : Int) < s.size) = false := decide_eq_false (by omega)
          by_cases h2 : 1048576 < t + (s.size : Int)
          · have d2 : decide ((1048576 : Int) < t + (s.size : Int)) = true := decide_eq_true h2
            go_wp2
            go_ret
            exact ⟨.inr rfl, rfl⟩
          · have d2 : decide ((1048576 : Int) < t + (s.size : Int)) = false := decide_eq_false h2
            go_wp2
            go_round
            case rel => exact ⟨_, k + 1, rfl, by go_num, by omega, by omega, by omega⟩
            case measure => simp [intOf]; omega
      · go_wp2
        go_ret
        exact ⟨.inl ⟨rfl, by omega⟩, rfl⟩
end Go.Proofs.Qxb6600025a
