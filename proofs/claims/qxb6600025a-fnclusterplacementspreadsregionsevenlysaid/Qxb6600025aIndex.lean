import Derived.Test.Qxb6600025aItoa
namespace Go.Proofs.Qxb6600025a
set_option linter.unusedVariables false
set_option linter.unusedSimpArgs false
open Go.RowKit

set_option maxHeartbeats 800000 in
theorem index_any (s : ByteArray) (l : List Int) (n N : Nat) (w : World) (hs : Named s l) (hd : Digits l n) (hN : n < N) (hN2 : N ≤ 65536) :
    Calls Try.prog 24 #[.string s, .int .i64 N] w fun e w' => e = .returned (.int .i64 n) ∧ w = w' := by
  have hsz : s.size = l.length + 1 := hs.1
  have hpos := hd.pos
  have hsh := hd.short
  have z1 : 2 ≤ s.size := by omega
  have z2 : s.size ≤ 25 := by omega
  have p0 : 0 < s.size := by omega
  have p1 : 1 < s.size := by omega
  have HS : Hid (Named s l) := hs
  have HD : Hid (Digits l n) := hd
  have hh0 : (s[0]'p0).toNat = 110 := by have := hs.2.1 (by omega); omega
  have q0 : (((s[0]'p0).toNat : Int) != 110) = false := by rw [hh0]; rfl
  have t0 : decide ((s.size : Int) < 2) = false := decide_eq_false (by omega)
  have hone : (decide ((2 : Int) < (s.size : Int)) = false) ∨ (decide ((2 : Int) < (s.size : Int)) = true ∧ (((s[1]'p1).toNat : Int) == 48) = false) := by
    by_cases h2 : 2 < s.size
    · refine .inr ⟨decide_eq_true (by omega), ?_⟩
      have := hs.2.2 0 (by omega) (by omega)
      have h3 := hd.head (by omega)
      rw [beq_eq_false_iff_ne]
      simp only [Nat.zero_add] at this
      rw [this]
      exact h3
    · exact .inl (decide_eq_false (by omega))
  have HL : Hid (s.size = l.length + 1) := hsz
  clear hs hd hsz hpos hsh hh0
  rcases hone with t1 | ⟨t1, q1⟩
  · skip
    go_enter Try.func24, Try.ntmps24
    go_wp2
    go_loop [5, 6] (fun v' i' => ∃ k : Nat, k + 1 ≤ s.size ∧ i' = .int .i64 ((k : Int) + 1) ∧ v' = .int .i64 (val (l.take k))) (fun _ i' => s.size - (intOf i').toNat)
    case atStart => exact ⟨0, by omega, by go_num, by simp [val]⟩
    case round =>
      obtain ⟨k, hk, rfl, rfl⟩ := hrel
      have hv0 := val_take_le l HD.out.digits k
      rw [HD.out.value] at hv0
      obtain ⟨v1, v2⟩ := hv0
      by_cases hlt : k + 1 < s.size
      · have hkl : k < l.length := by have := HL.out; omega
        have hck := HS.out.2.2 k hkl hlt
        have hdg := HD.out.digits (l.getD k 0) (by simp [List.getD, hkl])
        have hv' := val_take_le l HD.out.digits (k + 1)
        rw [HD.out.value] at hv'
        have HVS : Hid (val (l.take (k + 1)) = val (l.take k) * 10 + (l.getD k 0 - 48)) := val_take_succ l k hkl
        rw [val_take_succ l k hkl] at hv'
        rw [← hck] at hv' hdg HVS
        clear hck
        obtain ⟨v3, v4⟩ := hv'
        obtain ⟨g1, g2⟩ := hdg
        generalize val (l.take k) = x at v1 v2 v3 v4 HVS
        have d1 : decide (((s[k + 1]'hlt).toNat : Int) < 48) = false := decide_eq_false (by omega)
        have d2 : decide (57 < ((s[k + 1]'hlt).toNat : Int)) = false := decide_eq_false (by omega)
        have hlt' : (k : Int) + 1 < s.size := by omega
        go_wp2
        go_round
        case rel => exact ⟨k + 1, by omega, by go_num, by rw [HVS.out]⟩
        case measure => simp [intOf]; omega
      · have hkl : k = l.length := by have := HL.out; omega
        have HV : Hid (val (l.take k) = n) := by rw [hkl, List.take_length]; exact HD.out.value
        clear hkl
        generalize val (l.take k) = x at v1 v2 HV
        go_wp2
        go_ret
        exact ⟨by rw [← HV.out]; rfl, rfl⟩
  · skip
    go_enter Try.func24, Try.ntmps24
    go_wp2
    go_loop [5, 6] (fun v' i' => ∃ k : Nat, k + 1 ≤ s.size ∧ i' = .int .i64 ((k : Int) + 1) ∧ v' = .int .i64 (val (l.take k))) (fun _ i' => s.size - (intOf i').toNat)
    case atStart => exact ⟨0, by omega, by go_num, by simp [val]⟩
    case round =>
      obtain ⟨k, hk, rfl, rfl⟩ := hrel
      have hv0 := val_take_le l HD.out.digits k
      rw [HD.out.value] at hv0
      obtain ⟨v1, v2⟩ := hv0
      by_cases hlt : k + 1 < s.size
      · have hkl : k < l.length := by have := HL.out; omega
        have hck := HS.out.2.2 k hkl hlt
        have hdg := HD.out.digits (l.getD k 0) (by simp [List.getD, hkl])
        have hv' := val_take_le l HD.out.digits (k + 1)
        rw [HD.out.value] at hv'
        have HVS : Hid (val (l.take (k + 1)) = val (l.take k) * 10 + (l.getD k 0 - 48)) := val_take_succ l k hkl
        rw [val_take_succ l k hkl] at hv'
        rw [← hck] at hv' hdg HVS
        clear hck
        obtain ⟨v3, v4⟩ := hv'
        obtain ⟨g1, g2⟩ := hdg
        generalize val (l.take k) = x at v1 v2 v3 v4 HVS
        have d1 : decide (((s[k + 1]'hlt).toNat : Int) < 48) = false := decide_eq_false (by omega)
        have d2 : decide (57 < ((s[k + 1]'hlt).toNat : Int)) = false := decide_eq_false (by omega)
        have hlt' : (k : Int) + 1 < s.size := by omega
        go_wp2
        go_round
        case rel => exact ⟨k + 1, by omega, by go_num, by rw [HVS.out]⟩
        case measure => simp [intOf]; omega
      · have hkl : k = l.length := by have := HL.out; omega
        have HV : Hid (val (l.take k) = n) := by rw [hkl, List.take_length]; exact HD.out.value
        clear hkl
        generalize val (l.take k) = x at v1 v2 HV
        go_wp2
        go_ret
        exact ⟨by rw [← HV.out]; rfl, rfl⟩
end Go.Proofs.Qxb6600025a
