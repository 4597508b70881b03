import Derived.Test.Qxb6000100aClone
import Derived.Test.Qxb6000100aPlain
namespace Go.Proofs.Qxb6000100a
set_option linter.unusedVariables false
set_option linter.unusedSimpArgs false
open Go.RowKit

/-- The first quote behind i and ahead of n, if there is one. -/
theorem first_quote (zs : List Int) (i n : Nat) : (∀ t, i < t → t < n → zs.getD t 0 ≠ 34) ∨ ∃ q, i < q ∧ q < n ∧ zs.getD q 0 = 34 ∧ ∀ t, i < t → t < q → zs.getD t 0 ≠ 34 := by
  induction n with
  | zero => exact .inl fun t _ h => by omega
  | succ n ih =>
    rcases ih with h | ⟨q, h1, h2, h3, h4⟩
    · by_cases hn : i < n ∧ zs.getD n 0 = 34
      · exact .inr ⟨n, hn.1, by omega, hn.2, h⟩
      · refine .inl fun t h1 h2 => ?_
        by_cases ht : t < n
        · exact h t h1 ht
        · obtain rfl : t = n := by omega
          exact fun e => hn ⟨h1, e⟩
    · exact .inr ⟨q, h1, by omega, h3, h4⟩

set_option maxHeartbeats 400000 in
theorem plain_yes (c : Int) (w : World) (h : Okb c) :
    Calls Try.prog 17 #[.int .u8 c] w fun e w' => e = .returned (.bool true) ∧ w = w' := by
  obtain ⟨h1, h2, h3, h4⟩ := h
  have d1 : decide (32 ≤ c) = true := decide_eq_true h1
  have d2 : decide (c ≤ 126) = true := decide_eq_true h2
  have d3 : (c == 92) = false := beq_eq_false_iff_ne.2 h3
  have d4 : (c != 92) = true := by simp [bne, d3]
  clear h3 h4
  go_enter Try.func17, Try.ntmps17
  go_wp2
  go_ret
  exact ⟨rfl, rfl⟩

set_option maxHeartbeats 400000 in
theorem plain_no (c : Int) (w : World) (h : ¬ Okb c) (hq : c ≠ 34) :
    Calls Try.prog 17 #[.int .u8 c] w fun e w' => e = .returned (.bool false) ∧ w = w' := by
  by_cases h1 : 32 ≤ c
  · have d1 : decide (32 ≤ c) = true := decide_eq_true h1
    by_cases h2 : c ≤ 126
    · have d2 : decide (c ≤ 126) = true := decide_eq_true h2
      have h3 : c = 92 := by
        by_cases h3 : c = 92
        · exact h3
        · exact absurd ⟨h1, h2, h3, hq⟩ h
      have d3 : (c == 92) = true := beq_iff_eq.2 h3
      have d4 : (c != 92) = false := by simp [bne, d3]
      clear h3 h hq
      go_enter Try.func17, Try.ntmps17
      go_wp2
      go_ret
      exact ⟨rfl, rfl⟩
    · have d2 : decide (c ≤ 126) = false := decide_eq_false h2
      clear h hq
      go_enter Try.func17, Try.ntmps17
      go_wp2
      go_ret
      exact ⟨rfl, rfl⟩
  · have d1 : decide (32 ≤ c) = false := decide_eq_false h1
    clear h hq
    go_enter Try.func17, Try.ntmps17
    go_wp2
    go_ret
    exact ⟨rfl, rfl⟩

set_option maxHeartbeats 400000 in
theorem pend_past (a : Option Addr) (len cap i : Nat) (w : World) (h : len ≤ i) (hi : i ≤ 1048576) :
    Calls Try.prog 10 #[.slice a len cap, .int .i64 i] w fun e w' => e = .returned (.int .i64 (-1)) ∧ w = w' := by
  have d1 : decide ((i : Int) < 0) = false := decide_eq_false (by omega)
  have d2 : decide ((len : Int) ≤ i) = true := decide_eq_true (by omega)
  go_enter Try.func10, Try.ntmps10
  go_wp2
  go_ret
  exact ⟨rfl, rfl⟩

set_option maxHeartbeats 400000 in
theorem pend_head (b off len cap i : Nat) (c : Int) (w : World) (hi : i < len) (hl : len ≤ 1048576) (c0 : w.cell? ⟨b, off + i, none⟩ = some (.int .u8 c)) (hc : c ≠ 34) :
    Calls Try.prog 10 #[.slice (some ⟨b, off, none⟩) len cap, .int .i64 i] w fun e w' => e = .returned (.int .i64 (-1)) ∧ w = w' := by
  have d1 : decide ((i : Int) < 0) = false := decide_eq_false (by omega)
  have d2 : decide ((len : Int) ≤ i) = false := decide_eq_false (by omega)
  have n2 : (i : Int) < len := by omega
  have n3 : (c == 34) = false := beq_eq_false_iff_ne.2 hc
  have n4 : (c != 34) = true := by simp [bne, n3]
  clear hc
  go_enter Try.func10, Try.ntmps10
  go_wp2
  go_ret
  exact ⟨rfl, rfl⟩

set_option maxHeartbeats 400000 in
theorem pend_open (b off len cap i : Nat) (zs : List Int) (w : World) (hz : zs.length = len) (hi : i < len) (hl : len ≤ 1048576) (hc : Bytes w b off zs) (hq : zs.getD i 0 = 34) (h : ∀ t, i < t → t < len → zs.getD t 0 ≠ 34) :
    Calls Try.prog 10 #[.slice (some ⟨b, off, none⟩) len cap, .int .i64 i] w fun e w' => e = .returned (.int .i64 (-1)) ∧ w = w' := by
  have c0 := hc i (by omega)
  rw [hq] at c0
  clear hq
  have d1 : decide ((i : Int) < 0) = false := decide_eq_false (by omega)
  have d2 : decide ((len : Int) ≤ i) = false := decide_eq_false (by omega)
  have n2 : (i : Int) < len := by omega
  have HH := h
  have HC : Hid (Bytes w b off zs) := hc
  clear h hc
  go_enter Try.func10, Try.ntmps10
  go_wp2
  go_loop [5, 6] (fun s i' => s = .int .i64 (-1) ∧ ∃ k : Nat, i + 1 ≤ k ∧ k ≤ len ∧ i' = .int .i64 k) (fun _ i' => len - (intOf i').toNat)
  case atStart => exact ⟨rfl, i + 1, by omega, by omega, by go_num⟩
  case round =>
    obtain ⟨rfl, k, hk, hkl, rfl⟩ := hrel
    by_cases hlt : k < len
    · have ck := HC.out k (by omega)
      have hne := HH k (by omega) hlt
      generalize zs.getD k 0 = c at ck hne
      have n34 : (c == 34) = false := beq_eq_false_iff_ne.2 hne
      clear hne HH
      go_wp2
      go_round
      case rel => exact ⟨rfl, k + 1, by omega, by omega, by go_num⟩
      case measure => simp [intOf]; omega
    · clear HH
      go_wp2
      go_ret
      exact ⟨rfl, rfl⟩

set_option maxHeartbeats 800000 in
theorem pend_some (b off len cap i q : Nat) (zs : List Int) (w : World) (hz : zs.length = len) (hl : len ≤ 1048576) (hc : Bytes w b off zs) (h : IsStr zs i q) :
    Calls Try.prog 10 #[.slice (some ⟨b, off, none⟩) len cap, .int .i64 i] w fun e w' => e = .returned (.int .i64 ((q : Int) + 1)) ∧ w = w' := by
  obtain ⟨a1, a2, a3, a4, a5⟩ := h
  have c0 := hc i (by omega)
  rw [a3] at c0
  have cq := hc q (by omega)
  rw [a4] at cq
  clear a3 a4
  have d1 : decide ((i : Int) < 0) = false := decide_eq_false (by omega)
  have d2 : decide ((len : Int) ≤ i) = false := decide_eq_false (by omega)
  have n2 : (i : Int) < len := by omega
  have HC : Hid (Bytes w b off zs) := hc
  have HO : Hid (∀ t, i < t → t < q → Okb (zs.getD t 0)) := a5
  clear a5 hc
  go_enter Try.func10, Try.ntmps10
  go_wp2
  go_loop [5, 6] (fun s i' => s = .int .i64 (-1) ∧ ∃ k : Nat, i + 1 ≤ k ∧ k ≤ q ∧ i' = .int .i64 k) (fun _ i' => len - (intOf i').toNat)
  case atStart => exact ⟨rfl, i + 1, by omega, by omega, by go_num⟩
  case round =>
    obtain ⟨rfl, k, hk, hkl, rfl⟩ := hrel
    by_cases hlt : k < q
    · have ck := HC.out k (by omega)
      have hne := (HO.out k (by omega) hlt).2.2.2
      generalize zs.getD k 0 = c at ck hne
      have n34 : (c == 34) = false := beq_eq_false_iff_ne.2 hne
      clear hne
      go_wp2
      go_round
      case rel => exact ⟨rfl, k + 1, by omega, by omega, by go_num⟩
      case measure => simp [intOf]; omega
    · obtain rfl : k = q := by omega
      go_wp2
      go_loop [7] (fun i' => ∃ t : Nat, i + 1 ≤ t ∧ t ≤ k ∧ i' = .int .i64 t) (fun i' => len - (intOf i').toNat)
      case atStart => exact ⟨i + 1, by omega, by omega, by go_num⟩
      case round =>
        obtain ⟨t, ht, htk, rfl⟩ := hrel
        by_cases hlt2 : t < k
        · have ct := HC.out t (by omega)
          have hok := HO.out t (by omega) hlt2
          generalize zs.getD t 0 = c at ct hok
          have HK := plain_yes c w hok
          clear hok
          go_wp2_with (go_at_call 17; refine HK.mono ?_; rintro e w' ⟨rfl, rfl⟩)
          go_round
          case rel => exact ⟨t + 1, by omega, by omega, by go_num⟩
          case measure => simp [intOf]; omega
        · go_wp2
          go_ret
          exact ⟨rfl, rfl⟩

set_option maxHeartbeats 800000 in
theorem pend_bad (b off len cap i q : Nat) (zs : List Int) (w : World) (hz : zs.length = len) (hl : len ≤ 1048576) (hc : Bytes w b off zs) (a1 : i < q) (a2 : q < len) (a3 : zs.getD i 0 = 34) (a4 : zs.getD q 0 = 34) (a5 : ∀ t, i < t → t < q → zs.getD t 0 ≠ 34) (h : ¬ ∀ t, i < t → t < q → Okb (zs.getD t 0)) :
    Calls Try.prog 10 #[.slice (some ⟨b, off, none⟩) len cap, .int .i64 i] w fun e w' => e = .returned (.int .i64 (-1)) ∧ w = w' := by
  have c0 := hc i (by omega)
  rw [a3] at c0
  have cq := hc q (by omega)
  rw [a4] at cq
  clear a3 a4
  have d1 : decide ((i : Int) < 0) = false := decide_eq_false (by omega)
  have d2 : decide ((len : Int) ≤ i) = false := decide_eq_false (by omega)
  have n2 : (i : Int) < len := by omega
  have HC : Hid (Bytes w b off zs) := hc
  have HO : Hid (∀ t, i < t → t < q → zs.getD t 0 ≠ 34) := a5
  have HN : Hid (¬ ∀ t, i < t → t < q → Okb (zs.getD t 0)) := h
  clear a5 hc h
  go_enter Try.func10, Try.ntmps10
  go_wp2
  go_loop [5, 6] (fun s i' => s = .int .i64 (-1) ∧ ∃ k : Nat, i + 1 ≤ k ∧ k ≤ q ∧ i' = .int .i64 k) (fun _ i' => len - (intOf i').toNat)
  case atStart => exact ⟨rfl, i + 1, by omega, by omega, by go_num⟩
  case round =>
    obtain ⟨rfl, k, hk, hkl, rfl⟩ := hrel
    by_cases hlt : k < q
    · have ck := HC.out k (by omega)
      have hne := HO.out k (by omega) hlt
      generalize zs.getD k 0 = c at ck hne
      have n34 : (c == 34) = false := beq_eq_false_iff_ne.2 hne
      clear hne
      go_wp2
      go_round
      case rel => exact ⟨rfl, k + 1, by omega, by omega, by go_num⟩
      case measure => simp [intOf]; omega
    · obtain rfl : k = q := by omega
      go_wp2
      go_loop [7] (fun i' => ∃ t : Nat, i + 1 ≤ t ∧ t ≤ k ∧ i' = .int .i64 t ∧ Hid (∀ x, i < x → x < t → Okb (zs.getD x 0))) (fun i' => len - (intOf i').toNat)
      case atStart => exact ⟨i + 1, by omega, by omega, by go_num, fun x h1 h2 => by omega⟩
      case round =>
        obtain ⟨t, ht, htk, rfl, HT⟩ := hrel
        by_cases hlt2 : t < k
        · have ct := HC.out t (by omega)
          have hne := HO.out t (by omega) hlt2
          have HE : Hid (Okb (zs.getD t 0) → ∀ x, i < x → x < t + 1 → Okb (zs.getD x 0)) := by
            intro oc x h1 h2
            by_cases hx : x < t
            · exact HT.out x h1 hx
            · obtain rfl : x = t := by omega
              exact oc
          generalize zs.getD t 0 = c at ct hne HE
          by_cases hok : Okb c
          · have HK := plain_yes c w hok
            have HR : Hid (∀ x, i < x → x < t + 1 → Okb (zs.getD x 0)) := HE.out hok
            clear hok hne HE
            go_wp2_with (go_at_call 17; refine HK.mono ?_; rintro e w' ⟨rfl, rfl⟩)
            go_round
            case rel => exact ⟨t + 1, by omega, by omega, by go_num, HR⟩
            case measure => simp [intOf]; omega
          · have HK := plain_no c w hok hne
            clear hok hne HE
            go_wp2_with (go_at_call 17; refine HK.mono ?_; rintro e w' ⟨rfl, rfl⟩)
            go_ret
            exact ⟨rfl, rfl⟩
        · obtain rfl : t = k := by omega
          exact absurd HT.out HN.out

/-- The model's end, where no plain string stands at i. -/
theorem pend_none (b off len cap i : Nat) (zs : List Int) (w : World) (hz : zs.length = len) (hi : i ≤ len) (hl : len ≤ 1048576) (hc : Bytes w b off zs) (h : ∀ j, ¬ IsStr zs i j) :
    Calls Try.prog 10 #[.slice (some ⟨b, off, none⟩) len cap, .int .i64 i] w fun e w' => e = .returned (.int .i64 (-1)) ∧ w = w' := by
  by_cases h1 : i < len
  · by_cases hq : zs.getD i 0 = 34
    · rcases first_quote zs i len with hn | ⟨q, q1, q2, q3, q4⟩
      · exact pend_open b off len cap i zs w hz h1 hl hc hq hn
      · exact pend_bad b off len cap i q zs w hz hl hc q1 q2 hq q3 q4 (fun hall => h q ⟨q1, by omega, hq, q3, hall⟩)
    · exact pend_head b off len cap i _ w h1 hl (hc i (by omega)) hq
  · exact pend_past _ len cap i w (by omega) (by omega)
end Go.Proofs.Qxb6000100a
