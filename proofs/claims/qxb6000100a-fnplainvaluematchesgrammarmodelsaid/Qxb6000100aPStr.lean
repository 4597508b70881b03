import Derived.Test.Qxb6000100aClone
import Derived.Test.Qxb6000100aPlain
namespace Go.Proofs.Qxb6000100a
set_option linter.unusedVariables false
set_option linter.unusedSimpArgs false
open Go.RowKit

set_option maxHeartbeats 400000 in
theorem pstr_some (b off len cap i j m : Nat) (zs : List Int) (w : World) (hz : zs.length = len) (hl : len ≤ 1048576) (hlc : len ≤ cap) (hc : Bytes w b off zs) (h : IsStr zs i j) (hm : m = j - (i + 1)) :
    Calls Try.prog 9 #[.slice (some ⟨b, off, none⟩) len cap, .int .i64 i] w fun e w' => e = .returned (.tuple #[.slice (some ⟨b, off + (i + 1), none⟩) m (cap - (i + 1)), .int .i64 ((j : Int) + 1)]) ∧ w = w' := by
  subst hm
  obtain ⟨a1, a2, a3, a4, a5⟩ := h
  have c0 := hc i (by omega)
  rw [a3] at c0
  have n1 : ((i : Int) == (len : Int)) = false := beq_eq_false_iff_ne.2 (by omega)
  have n2 : (i : Int) < len := by omega
  go_enter Try.func9, Try.ntmps9
  go_wp2
  go_loop [6] (fun i' => ∃ k : Nat, i + 1 ≤ k ∧ k ≤ j ∧ i' = .int .i64 k) (fun i' => len - (intOf i').toNat)
  case atStart => exact ⟨i + 1, by omega, by omega, by go_num⟩
  case round =>
    obtain ⟨k, hk, hkj, rfl⟩ := hrel
    have ck := hc k (by omega)
    by_cases hlt : k < j
    · obtain ⟨o1, o2, o3, o4⟩ := a5 k (by omega) hlt
      generalize zs.getD k 0 = c at ck o1 o2 o3 o4
      have o3' : (c == 92) = false := beq_eq_false_iff_ne.2 o3
      have o4' : (c == 34) = false := beq_eq_false_iff_ne.2 o4
      have d1 : decide (c < 32) = false := decide_eq_false (by omega)
      have d2 : decide (126 < c) = false := decide_eq_false (by omega)
      clear hc a3 a4 a5 o3 o4
      go_wp2
      go_round
      case rel => exact ⟨k + 1, by omega, by omega, by go_num⟩
      case measure => simp [intOf]; omega
    · obtain rfl : k = j := by omega
      rw [a4] at ck
      clear hc a3 a4 a5
      have hcap : ¬ cap = i + 1 := by omega
      go_wp2
      go_ret2
      exact ⟨rfl, rfl⟩

set_option maxHeartbeats 400000 in
/-- i stands at the line's end, or no quote stands at i. -/
theorem pstr_none_end (a : Option Addr) (len cap : Nat) (w : World) :
    Calls Try.prog 9 #[.slice a len cap, .int .i64 len] w fun e w' => e = .returned (.tuple #[.slice none 0 0, .int .i64 (-1)]) ∧ w = w' := by
  have n1 : ((len : Int) == (len : Int)) = true := by simp
  go_enter Try.func9, Try.ntmps9
  go_wp2
  go_ret2
  exact ⟨rfl, rfl⟩

set_option maxHeartbeats 400000 in
theorem pstr_none_head (b off len cap i : Nat) (c : Int) (w : World) (hi : i < len) (hl : len ≤ 1048576) (c0 : w.cell? ⟨b, off + i, none⟩ = some (.int .u8 c)) (hc : c ≠ 34) :
    Calls Try.prog 9 #[.slice (some ⟨b, off, none⟩) len cap, .int .i64 i] w fun e w' => e = .returned (.tuple #[.slice none 0 0, .int .i64 (-1)]) ∧ w = w' := by
  have n1 : ((i : Int) == (len : Int)) = false := beq_eq_false_iff_ne.2 (by omega)
  have n2 : (i : Int) < len := by omega
  have n3 : (c == 34) = false := beq_eq_false_iff_ne.2 hc
  have n4 : (c != 34) = true := by simp [bne, n3]
  clear hc
  go_enter Try.func9, Try.ntmps9
  go_wp2
  go_ret2
  exact ⟨rfl, rfl⟩

set_option maxHeartbeats 400000 in
theorem pstr_none_body (b off len cap i : Nat) (zs : List Int) (w : World) (hz : zs.length = len) (hi : i < len) (hl : len ≤ 1048576) (hc : Bytes w b off zs) (hq : zs.getD i 0 = 34) (h : ∀ j, ¬ IsStr zs i j) :
    Calls Try.prog 9 #[.slice (some ⟨b, off, none⟩) len cap, .int .i64 i] w fun e w' => e = .returned (.tuple #[.slice none 0 0, .int .i64 (-1)]) ∧ w = w' := by
  have c0 := hc i (by omega)
  rw [hq] at c0
  have HQ : Hid (zs.getD i 0 = 34) := hq
  clear hq
  have n1 : ((i : Int) == (len : Int)) = false := beq_eq_false_iff_ne.2 (by omega)
  have n2 : (i : Int) < len := by omega
  have HH : Hid (∀ j, ¬ IsStr zs i j) := h
  have HC : Hid (Bytes w b off zs) := hc
  clear h hc
  go_enter Try.func9, Try.ntmps9
  go_wp2
  go_loop [6] (fun i' => ∃ k : Nat, i + 1 ≤ k ∧ k ≤ len ∧ i' = .int .i64 k ∧ Hid (∀ t, i < t → t < k → Okb (zs.getD t 0))) (fun i' => len - (intOf i').toNat)
  case atStart => exact ⟨i + 1, by omega, by omega, by go_num, fun t h1 h2 => by omega⟩
  case round =>
    obtain ⟨k, hk, hkl, rfl, HO⟩ := hrel
    by_cases hlt : k < len
    · have ck := HC.out k (by omega)
      have hne : ¬ zs.getD k 0 = 34 := fun e => HH.out k ⟨by omega, by omega, HQ.out, e, HO.out⟩
      have HE : Hid (∀ c, zs.getD k 0 = c → Okb c → ∀ t, i < t → t < k + 1 → Okb (zs.getD t 0)) := by
        intro c e oc t h1 h2
        by_cases ht : t < k
        · exact HO.out t h1 ht
        · obtain rfl : t = k := by omega
          rw [e]; exact oc
      generalize hgc : zs.getD k 0 = c at ck hne
      have HG : Hid (zs.getD k 0 = c) := hgc
      clear hgc
      have n34 : (c == 34) = false := beq_eq_false_iff_ne.2 hne
      by_cases oc : Okb c
      · have HOC : Hid (Okb c) := oc
        obtain ⟨o1, o2, o3, o4⟩ := oc
        have o3' : (c == 92) = false := beq_eq_false_iff_ne.2 o3
        have d1 : decide (c < 32) = false := decide_eq_false (by omega)
        have d2 : decide (126 < c) = false := decide_eq_false (by omega)
        clear o3 o4 hne
        go_wp2
        go_round
        case rel => exact ⟨k + 1, by omega, by omega, by go_num, HE.out c HG.out HOC.out⟩
        case measure => simp [intOf]; omega
      · have hbad : c < 32 ∨ (¬ c < 32 ∧ 126 < c) ∨ (¬ c < 32 ∧ ¬ 126 < c ∧ c = 92) := by
          by_cases h1 : c < 32
          · exact .inl h1
          · by_cases h2 : 126 < c
            · exact .inr (.inl ⟨h1, h2⟩)
            · refine .inr (.inr ⟨h1, h2, ?_⟩)
              by_cases h3 : c = 92
              · exact h3
              · exact absurd ⟨by omega, by omega, h3, hne⟩ oc
        clear oc hne
        rcases hbad with h1 | ⟨h1, h2⟩ | ⟨h1, h2, h3⟩
        · have d1 : decide (c < 32) = true := decide_eq_true h1
          go_wp2
          go_ret2
          exact ⟨rfl, rfl⟩
        · have d1 : decide (c < 32) = false := decide_eq_false h1
          have d2 : decide (126 < c) = true := decide_eq_true h2
          go_wp2
          go_ret2
          exact ⟨rfl, rfl⟩
        · have d1 : decide (c < 32) = false := decide_eq_false h1
          have d2 : decide (126 < c) = false := decide_eq_false h2
          have d3 : (c == 92) = true := beq_iff_eq.2 h3
          clear h3
          go_wp2
          go_ret2
          exact ⟨rfl, rfl⟩
    · go_wp2
      go_ret2
      exact ⟨rfl, rfl⟩

/-- PlainString where no plain string stands at i. -/
theorem pstr_none (b off len cap i : Nat) (zs : List Int) (w : World) (hz : zs.length = len) (hi : i ≤ len) (hl : len ≤ 1048576) (hc : Bytes w b off zs) (h : ∀ j, ¬ IsStr zs i j) :
    Calls Try.prog 9 #[.slice (some ⟨b, off, none⟩) len cap, .int .i64 i] w fun e w' => e = .returned (.tuple #[.slice none 0 0, .int .i64 (-1)]) ∧ w = w' := by
  by_cases h1 : i < len
  · by_cases hq : zs.getD i 0 = 34
    · exact pstr_none_body b off len cap i zs w hz h1 hl hc hq h
    · exact pstr_none_head b off len cap i _ w h1 hl (hc i (by omega)) hq
  · obtain rfl : i = len := by omega
    exact pstr_none_end _ _ _ w
end Go.Proofs.Qxb6000100a
