import Derived.Test.Qxb6600025aSizesR
namespace Go.Proofs.Qxb6600025a
set_option linter.unusedVariables false
set_option linter.unusedSimpArgs false
open Go.RowKit

theorem hid1 {ss : List ByteArray} (h : Short ss) : Hid (Short ss) := h
theorem ext1 {rows : List (List ByteArray)} {i n : Nat} (h : Hid (∀ j, j < i → (rows.getD j []).length ≤ 1048576)) (hl : (rows.getD i []).length = n) (h1 : ¬ 1048576 < n) : Hid (∀ j, j < i + 1 → (rows.getD j []).length ≤ 1048576) := by
  intro j hj
  by_cases e : j < i
  · exact h.out j e
  · obtain rfl : j = i := by omega
    omega
theorem all1 {rows : List (List ByteArray)} {n : Nat} (hl : rows.length = n) (h : ∀ j, j < n → (rows.getD j []).length ≤ 1048576) : ∀ j, (rows.getD j []).length ≤ 1048576 := by
  intro j
  by_cases e : j < n
  · exact h j e
  · rw [List.getD, List.getElem?_eq_none (by omega)]
    simp

set_option maxRecDepth 100000 in
set_option maxHeartbeats 3200000 in
/-- zzBytes (function 8): where it says true, nothing is long. -/
theorem bytes8 (ep : Int) (ra la sa : Option Addr) (rn rc ln lc sn sc : Nat) (rows stale : List (List ByteArray)) (lost : List ByteArray) (w : World)
    (hrn : rn ≤ maxLen) (hln : ln ≤ maxLen) (hsn : sn ≤ maxLen) (hR : RdR w ra rn rows) (hL : RdS w la ln lost) (hS : RdR w sa sn stale)
    (zr : ∀ j, Short (rows.getD j []) ∧ (rows.getD j []).length ≤ maxLen) (zl : Short lost) (zs : ∀ j, Short (stale.getD j []) ∧ (stale.getD j []).length ≤ maxLen) :
    Calls Try.prog 8 #[.int .u64 ep, .slice ra rn rc, .slice la ln lc, .slice sa sn sc] w fun e w' => ((e = .returned (.bool true) ∧ rn ≤ 1048576 ∧ (∀ j, (rows.getD j []).length ≤ 1048576) ∧ ln ≤ 1048576 ∧ sn ≤ 1048576 ∧ (∀ j, (stale.getD j []).length ≤ 1048576)) ∨ e = .returned (.bool false)) ∧ w = w' := by
  unfold maxLen at hrn hln hsn
  have HRo : Hid (RdR w ra rn rows) := hR
  have HLo : Hid (RdS w la ln lost) := hL
  have HSt : Hid (RdR w sa sn stale) := hS
  have ZR : Hid (∀ j, Short (rows.getD j []) ∧ (rows.getD j []).length ≤ maxLen) := zr
  have ZL : Hid (Short lost) := zl
  have ZS : Hid (∀ j, Short (stale.getD j []) ∧ (stale.getD j []).length ≤ maxLen) := zs
  clear hR hL hS zr zl zs
  by_cases hbig : 1048576 < rn
  · have d1 : decide ((1048576 : Int) < rn) = true := decide_eq_true (by omega)
    go_enter Try.func8, Try.ntmps8
    go_wp2
    go_ret
    exact ⟨.inr rfl, rfl⟩
  have d0 : decide ((1048576 : Int) < rn) = false := decide_eq_false (by omega)
  go_enter Try.func8, Try.ntmps8
  go_wp2
  go_loop [9, 10] (fun t' i' => ∃ (t : Int) (i : Nat), t' = .int .i64 t ∧ i' = .int .i64 i ∧ i ≤ rn ∧ 0 ≤ t ∧ t ≤ 1048576 ∧ Hid (∀ j, j < i → (rows.getD j []).length ≤ 1048576)) (fun _ i' => rn - (intOf i').toNat)
  case atStart => exact ⟨_, 0, rfl, rfl, Nat.zero_le _, by omega, by omega, fun j hj => by omega⟩
  case round =>
    obtain ⟨t, i, rfl, rfl, hi, ht0, ht, HI⟩ := hrel
    by_cases hlt : i < rn
    · obtain ⟨b, off, e, hc⟩ := HRo.out.2 (by omega)
      subst e
      obtain ⟨a', n', c', g1, _, _, s1⟩ := hc i hlt
      have hm := (ZR.out i).2
      unfold maxLen at hm
      have hm' : n' ≤ 9223372036854775807 := by have := s1.1; omega
      have hlt' : (i : Int) < rn := by omega
      have HSH := hid1 (ZR.out i).1
      have HS1 : Hid (RdS w a' n' (rows.getD i [])) := s1
      clear hc hm s1
      by_cases h1 : 1048576 < n'
      · have d1 : decide ((1048576 : Int) < n') = true := decide_eq_true (by omega)
        go_wp2
        go_ret
        exact ⟨.inr rfl, rfl⟩
      have d1 : decide ((1048576 : Int) < n') = false := decide_eq_false (by omega)
      by_cases h2 : 1048576 < t + (n' : Int)
      · have d2 : decide ((1048576 : Int) < t + (n' : Int)) = true := decide_eq_true h2
        go_wp2
        go_ret
        exact ⟨.inr rfl, rfl⟩
      have d2 : decide ((1048576 : Int) < t + (n' : Int)) = false := decide_eq_false h2
      have HI' := ext1 HI HS1.out.1 h1
      go_wp2
      go_loop [9, 11] (fun t' k' => ∃ (t : Int) (k : Nat), t' = .int .i64 t ∧ k' = .int .i64 k ∧ k ≤ n' ∧ 0 ≤ t ∧ t ≤ 1048576) (fun _ k' => n' - (intOf k').toNat)
      case atStart => exact ⟨_, 0, rfl, rfl, Nat.zero_le _, by omega, by omega⟩
      case round =>
        clear d2 h2 ht ht0
        obtain ⟨t, k, rfl, rfl, hk, ht0, ht⟩ := hrel
        by_cases hkn : k < n'
        · obtain ⟨b', off', e, hc⟩ := HS1.out.2 (by omega)
          subst e
          have g2 := hc k hkn
          have g3 := HSH.out k
          unfold maxLen at g3
          generalize (rows.getD i []).getD k ByteArray.empty = s at g2 g3
          have hkn' : (k : Int) < n' := by omega
          clear hc
          by_cases h3 : 1048576 < s.size
          · have d3 : decide ((1048576 : Int) < s.size) = true := decide_eq_true (by omega)
            go_wp2
            go_ret
            exact ⟨.inr rfl, rfl⟩
          have d3 : decide ((1048576 : Int) < s.size) = false := decide_eq_false (by omega)
          by_cases h4 : 1048576 < t + (s.size : Int)
          · have d4 : decide ((1048576 : Int) < t + (s.size : Int)) = true := decide_eq_true h4
            go_wp2
            go_ret
            exact ⟨.inr rfl, rfl⟩
          have d4 : decide ((1048576 : Int) < t + (s.size : Int)) = false := decide_eq_false h4
          go_wp2
          go_round
          case rel => exact ⟨_, k + 1, rfl, by go_num, by omega, by omega, by omega⟩
          case measure => simp [intOf]; omega
        · go_wp2
          go_round
          case rel => exact ⟨_, i + 1, rfl, by go_num, by omega, by omega, by omega, HI'⟩
          case measure => simp [intOf]; omega
    · obtain rfl : rn = i := by omega
      by_cases hl1 : 1048576 < ln
      · have d5 : decide ((1048576 : Int) < ln) = true := decide_eq_true (by omega)
        go_wp2
        go_ret
        exact ⟨.inr rfl, rfl⟩
      have d5 : decide ((1048576 : Int) < ln) = false := decide_eq_false (by omega)
      by_cases hl2 : 1048576 < t + (ln : Int)
      · have d6 : decide ((1048576 : Int) < t + (ln : Int)) = true := decide_eq_true hl2
        go_wp2
        go_ret
        exact ⟨.inr rfl, rfl⟩
      have d6 : decide ((1048576 : Int) < t + (ln : Int)) = false := decide_eq_false hl2
      go_wp2
      go_loop [9, 12] (fun t' k' => ∃ (t : Int) (k : Nat), t' = .int .i64 t ∧ k' = .int .i64 k ∧ k ≤ ln ∧ 0 ≤ t ∧ t ≤ 1048576) (fun _ k' => ln - (intOf k').toNat)
      case atStart => exact ⟨_, 0, rfl, rfl, Nat.zero_le _, by omega, by omega⟩
      case round =>
        clear d6 hl2 ht ht0
        obtain ⟨t, k, rfl, rfl, hk, ht0, ht⟩ := hrel
        by_cases hkn : k < ln
        · obtain ⟨b', off', e, hc⟩ := HLo.out.2 (by omega)
          subst e
          have g2 := hc k hkn
          have g3 := ZL.out k
          unfold maxLen at g3
          generalize lost.getD k ByteArray.empty = s at g2 g3
          have hkn' : (k : Int) < ln := by omega
          clear hc
          by_cases h3 : 1048576 < s.size
          · have d3 : decide ((1048576 : Int) < s.size) = true := decide_eq_true (by omega)
            go_wp2
            go_ret
            exact ⟨.inr rfl, rfl⟩
          have d3 : decide ((1048576 : Int) < s.size) = false := decide_eq_false (by omega)
          by_cases h4 : 1048576 < t + (s.size : Int)
          · have d4 : decide ((1048576 : Int) < t + (s.size : Int)) = true := decide_eq_true h4
            go_wp2
            go_ret
            exact ⟨.inr rfl, rfl⟩
          have d4 : decide ((1048576 : Int) < t + (s.size : Int)) = false := decide_eq_false h4
          go_wp2
          go_round
          case rel => exact ⟨_, k + 1, rfl, by go_num, by omega, by omega, by omega⟩
          case measure => simp [intOf]; omega
        · obtain rfl : ln = k := by omega
          by_cases hs1 : 1048576 < sn
          · have d7 : decide ((1048576 : Int) < sn) = true := decide_eq_true (by omega)
            go_wp2
            go_ret
            exact ⟨.inr rfl, rfl⟩
          have d7 : decide ((1048576 : Int) < sn) = false := decide_eq_false (by omega)
          by_cases hs2 : 1048576 < t + (sn : Int)
          · have d8 : decide ((1048576 : Int) < t + (sn : Int)) = true := decide_eq_true hs2
            go_wp2
            go_ret
            exact ⟨.inr rfl, rfl⟩
          have d8 : decide ((1048576 : Int) < t + (sn : Int)) = false := decide_eq_false hs2
          have HIr : Hid (∀ j, j < rn → (rows.getD j []).length ≤ 1048576) := HI
          clear HI
          go_wp2
          clear d8
          go_loop [9, 13] (fun t' i' => ∃ (t : Int) (i : Nat), t' = .int .i64 t ∧ i' = .int .i64 i ∧ i ≤ sn ∧ 0 ≤ t ∧ t ≤ 1048576 ∧ Hid (∀ j, j < i → (stale.getD j []).length ≤ 1048576)) (fun _ i' => sn - (intOf i').toNat)
          case atStart => exact ⟨_, 0, rfl, rfl, Nat.zero_le _, by omega, by omega, fun j hj => by omega⟩
          case round =>
            obtain ⟨t, i, rfl, rfl, hi, ht0, ht, HI⟩ := hrel
            by_cases hlt : i < sn
            · obtain ⟨b, off, e, hc⟩ := HSt.out.2 (by omega)
              subst e
              obtain ⟨a', n', c', g1, _, _, s1⟩ := hc i hlt
              have hm := (ZS.out i).2
              unfold maxLen at hm
              have hm' : n' ≤ 9223372036854775807 := by have := s1.1; omega
              have hlt' : (i : Int) < sn := by omega
              have HSH := hid1 (ZS.out i).1
              have HS1 : Hid (RdS w a' n' (stale.getD i [])) := s1
              clear hc hm s1
              by_cases h1 : 1048576 < n'
              · have d1 : decide ((1048576 : Int) < n') = true := decide_eq_true (by omega)
                go_wp2
                go_ret
                exact ⟨.inr rfl, rfl⟩
              have d1 : decide ((1048576 : Int) < n') = false := decide_eq_false (by omega)
              by_cases h2 : 1048576 < t + (n' : Int)
              · have d2 : decide ((1048576 : Int) < t + (n' : Int)) = true := decide_eq_true h2
                go_wp2
                go_ret
                exact ⟨.inr rfl, rfl⟩
              have d2 : decide ((1048576 : Int) < t + (n' : Int)) = false := decide_eq_false h2
              have HI' := ext1 HI HS1.out.1 h1
              go_wp2
              go_loop [9, 14] (fun t' k' => ∃ (t : Int) (k : Nat), t' = .int .i64 t ∧ k' = .int .i64 k ∧ k ≤ n' ∧ 0 ≤ t ∧ t ≤ 1048576) (fun _ k' => n' - (intOf k').toNat)
              case atStart => exact ⟨_, 0, rfl, rfl, Nat.zero_le _, by omega, by omega⟩
              case round =>
                clear d2 h2 ht ht0
                obtain ⟨t, k, rfl, rfl, hk, ht0, ht⟩ := hrel
                by_cases hkn : k < n'
                · obtain ⟨b', off', e, hc⟩ := HS1.out.2 (by omega)
                  subst e
                  have g2 := hc k hkn
                  have g3 := HSH.out k
                  unfold maxLen at g3
                  generalize (stale.getD i []).getD k ByteArray.empty = s at g2 g3
                  have hkn' : (k : Int) < n' := by omega
                  clear hc
                  by_cases h3 : 1048576 < s.size
                  · have d3 : decide ((1048576 : Int) < s.size) = true := decide_eq_true (by omega)
                    go_wp2
                    go_ret
                    exact ⟨.inr rfl, rfl⟩
                  have d3 : decide ((1048576 : Int) < s.size) = false := decide_eq_false (by omega)
                  by_cases h4 : 1048576 < t + (s.size : Int)
                  · have d4 : decide ((1048576 : Int) < t + (s.size : Int)) = true := decide_eq_true h4
                    go_wp2
                    go_ret
                    exact ⟨.inr rfl, rfl⟩
                  have d4 : decide ((1048576 : Int) < t + (s.size : Int)) = false := decide_eq_false h4
                  go_wp2
                  go_round
                  case rel => exact ⟨_, k + 1, rfl, by go_num, by omega, by omega, by omega⟩
                  case measure => simp [intOf]; omega
                · go_wp2
                  go_round
                  case rel => exact ⟨_, i + 1, rfl, by go_num, by omega, by omega, by omega, HI'⟩
                  case measure => simp [intOf]; omega
            · obtain rfl : sn = i := by omega
              go_wp2
              go_ret
              exact ⟨.inl ⟨rfl, by omega, all1 HRo.out.1 HIr.out, by omega, by omega, all1 HSt.out.1 HI.out⟩, rfl⟩
end Go.Proofs.Qxb6600025a
