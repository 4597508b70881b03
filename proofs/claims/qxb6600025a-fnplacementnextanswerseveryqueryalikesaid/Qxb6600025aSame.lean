import Derived.Test.Qxb6600025aBase
namespace Go.Proofs.Qxb6600025a
set_option linter.unusedVariables false
set_option linter.unusedSimpArgs false
open Go.RowKit

theorem RdS.drewN {w : World} {a : Option Addr} {n : Nat} {ss : List ByteArray} (h : RdS w a n ss) (q : Nat) : RdS (w.drewN q) a n ss := h
theorem RdR.drewN {w : World} {a : Option Addr} {n : Nat} {rows : List (List ByteArray)} (h : RdR w a n rows) (q : Nat) : RdR (w.drewN q) a n rows := h

set_option maxHeartbeats 400000 in
theorem same_text (a a' : Option Addr) (n c c' : Nat) (ss : List ByteArray) (w : World) (hn : n ≤ 1048576) (h : RdS w a n ss) (h' : RdS w a' n ss) :
    Calls Try.prog 14 #[.slice a n c, .slice a' n c'] w fun e w' => e = .returned (.bool true) ∧ ∃ q, w' = w.drewN q := by
  have H1 : Hid (RdS w a n ss) := h
  have H2 : Hid (RdS w a' n ss) := h'
  have e0 : ((n : Int) != (n : Int)) = false := by simp
  clear h h'
  go_enter Try.func14, Try.ntmps14
  go_wp2
  go_loopw [5] (fun i wr => ∃ k q : Nat, k ≤ n ∧ i = .int .i64 k ∧ wr = w.drewN q) (fun i _ => n - (intOf i).toNat)
  case atStart => exact ⟨0, 0, Nat.zero_le _, rfl, rfl⟩
  case round =>
    obtain ⟨k, q, hk, rfl, hw⟩ := hrel
    have HW : Hid (wr = w.drewN q) := hw
    by_cases hlt : k < n
    · obtain ⟨b, off, e, hc⟩ := H1.out.2 (by omega)
      subst e
      obtain ⟨b', off', e, hc'⟩ := H2.out.2 (by omega)
      subst e
      have g1 : wr.cell? ⟨b, off + k, none⟩ = some (.string (ss.getD k ByteArray.empty)) := by rw [hw]; exact hc k hlt
      have g2 : wr.cell? ⟨b', off' + k, none⟩ = some (.string (ss.getD k ByteArray.empty)) := by rw [hw]; exact hc' k hlt
      generalize ss.getD k ByteArray.empty = s at g1 g2
      have hlt' : (k : Int) < (n : Int) := by omega
      clear hc hc' hw
      go_wp2
      go_quiet (fail)
      go_wp2
      go_roundw
      case rel => exact ⟨k + 1, q + nq, by omega, by go_num, by rw [HW.out, World.drewN_drewN]⟩
      case measure => simp [intOf]; omega
    · clear hw
      go_wp2
      go_ret
      exact ⟨rfl, q, HW.out⟩

set_option maxHeartbeats 400000 in
theorem same_rows (a a' : Option Addr) (n c c' : Nat) (rows : List (List ByteArray)) (w : World) (hn : n ≤ 1048576) (hb : ∀ j, (rows.getD j []).length ≤ 1048576) (h : RdR w a n rows) (h' : RdR w a' n rows) :
    Calls Try.prog 13 #[.slice a n c, .slice a' n c'] w fun e w' => e = .returned (.bool true) ∧ ∃ q, w' = w.drewN q := by
  have H1 : Hid (RdR w a n rows) := h
  have H2 : Hid (RdR w a' n rows) := h'
  have HB : Hid (∀ j, (rows.getD j []).length ≤ 1048576) := hb
  have e0 : ((n : Int) != (n : Int)) = false := by simp
  clear h h' hb
  go_enter Try.func13, Try.ntmps13
  go_wp2
  go_loopw [5] (fun i wr => ∃ k q : Nat, k ≤ n ∧ i = .int .i64 k ∧ wr = w.drewN q) (fun i _ => n - (intOf i).toNat)
  case atStart => exact ⟨0, 0, Nat.zero_le _, rfl, rfl⟩
  case round =>
    obtain ⟨k, q, hk, rfl, hw⟩ := hrel
    have HW : Hid (wr = w.drewN q) := hw
    by_cases hlt : k < n
    · obtain ⟨b, off, e, hc⟩ := H1.out.2 (by omega)
      subst e
      obtain ⟨b', off', e, hc'⟩ := H2.out.2 (by omega)
      subst e
      obtain ⟨x1, n1, c1, g1', _, _, s1⟩ := hc k hlt
      obtain ⟨x2, n2, c2, g2', _, _, s2⟩ := hc' k hlt
      have g1 : wr.cell? ⟨b, off + k, none⟩ = some (.slice x1 n1 c1) := by rw [hw]; exact g1'
      have g2 : wr.cell? ⟨b', off' + k, none⟩ = some (.slice x2 n2 c2) := by rw [hw]; exact g2'
      obtain rfl : n1 = n2 := s1.1.symm.trans s2.1
      have hn1 : n1 ≤ 1048576 := by have := HB.out k; have := s1.1; omega
      have HT : Hid (∀ q, Calls Try.prog 14 #[.slice x1 n1 c1, .slice x2 n1 c2] (wr.drewN q) fun e w' => e = .returned (.bool true) ∧ ∃ m, w' = (wr.drewN q).drewN m) := fun q' => same_text x1 x2 n1 c1 c2 (rows.getD k []) (wr.drewN q') hn1 (by rw [hw]; exact s1) (by rw [hw]; exact s2)
      have hlt' : (k : Int) < (n : Int) := by omega
      clear hc hc' s1 s2 g1' g2' hw
      go_wp2
      go_quiet ((go_at_call 14; exact Calls.quiet_of (HT.out _)))
      go_wp2
      go_roundw
      case rel => exact ⟨k + 1, q + nq, by omega, by go_num, by rw [HW.out, World.drewN_drewN]⟩
      case measure => simp [intOf]; omega
    · clear hw
      go_wp2
      go_ret
      exact ⟨rfl, q, HW.out⟩
end Go.Proofs.Qxb6600025a
