import Derived.Test.Qxb6000100aPStr
import Derived.Test.Qxb6000100aPEnd
import Derived.Test.Qxb6000100aSame
import Derived.Test.Qxb6000100aSegs
import Derived.Test.Qxb6000100aEarly
namespace Go.Proofs.Qxb6000100a
set_option linter.unusedVariables false
set_option linter.unusedSimpArgs false
open Go.RowKit

set_option maxHeartbeats 800000 in
theorem mod_in (a : Option Addr) (len cap i : Nat) (z : List Int) (w : World) (hr : Row w a len cap z) (h : len ≤ 1048576) (hi : i ≤ len) :
    Calls Try.prog 3 #[.slice a len cap, .int .i64 i] w fun e w' => e = .returned (.bool true) ∧ Below w.heap.size w w' := by
  have q22 : ∀ (w : World) (a : Option Addr) (n c n' c' : Nat), (binOp .eql 22 (.slice a n c) (.slice none n' c')).run Try.prog w = .ok (.bool a.isNone) w := fun w a n c n' c' => Lib.run_eql_slice_nil w _ _ a n c n' c' Try.underlying22
  have hlen := hr.length
  have d1 : decide ((i : Int) < 0) = false := decide_eq_false (by omega)
  have d2 : decide ((len : Int) < i) = false := decide_eq_false (by omega)
  have HC := clone_any a len cap z w hr h
  clear hr
  go_enter Try.func3, Try.ntmps3
  go_wp2_with (first | (go_at_call 7; refine (bytes7 _ _ _ _ _ h).mono ?_; rintro e w' ⟨rfl, rfl⟩))
  refine HC.mono ?_
  clear HC
  rintro e w1 ⟨hB, ⟨rfl, rfl⟩ | ⟨rfl, hs, hb⟩⟩
  · obtain rfl : i = 0 := by omega
    go_wp2_with fail
    refine (pstr_none_end none 0 0 _).mono ?_
    rintro e w' ⟨rfl, rfl⟩
    go_wp2_with fail
    refine (pend_past none 0 0 0 _ (Nat.le_refl _) (by omega)).mono ?_
    rintro e w' ⟨rfl, rfl⟩
    go_wp2
    go_ret
    exact ⟨rfl, hB⟩
  generalize List.take len z = zs at hlen hb
  clear z
  by_cases hex : ∃ j, IsStr zs i j
  · obtain ⟨j, hj⟩ := hex
    obtain ⟨m, hm⟩ : ∃ m, m = j - (i + 1) := ⟨_, rfl⟩
    have b1 : i < j := hj.1
    have b2 : j < len := by have := hj.2.1; omega
    have b3 : i + 1 + m ≤ j := by omega
    have b4 : j ≤ i + 1 + m := by omega
    have hP := pstr_some w.heap.size 0 len len i j m zs w1 hlen h (Nat.le_refl _) hb hj hm
    have hE := pend_some w.heap.size 0 len len i j zs w1 hlen h hb hj
    have s1 : Bytes w1 w.heap.size (i + 1) ((zs.drop (i + 1)).take m) := by have := hb.seg (i + 1) m; rwa [Nat.zero_add] at this
    have s3 : ((zs.drop (i + 1)).take m).length = m := by rw [List.length_take, List.length_drop, hlen]; omega
    have HS := fun c c' => same_row w.heap.size (i + 1) c w.heap.size (i + 1) c' m _ w1 s3 (by omega) s1 s1 hs hs
    have e1 : ((j : Int) + 1 == (j : Int) + 1) = true := by simp
    have e1' : ((j : Int) + 1 != (j : Int) + 1) = false := by simp
    have e2 : ((m : Int) != (j : Int) + 1 - i - 2) = false := by simp only [bne_eq_false_iff_eq]; omega
    have e3 : j - (i + 1) = m := by omega
    clear hj hm hlen hb s1 s3
    go_wp2_with fail
    refine hP.mono ?_
    clear hP
    rintro e w' ⟨rfl, rfl⟩
    go_wp2_with fail
    refine hE.mono ?_
    clear hE
    rintro e w' ⟨rfl, rfl⟩
    go_wp2_with fail
    refine (HS _ _).mono ?_
    clear HS
    rintro e w7 ⟨rfl, hB7⟩
    go_wp2
    go_ret
    exact ⟨rfl, hB.trans (hB7.mono (by omega))⟩
  · have hP := pstr_none w.heap.size 0 len len i zs w1 hlen hi h hb (fun j hj => hex ⟨j, hj⟩)
    have hE := pend_none w.heap.size 0 len len i zs w1 hlen hi h hb (fun j hj => hex ⟨j, hj⟩)
    clear hex hb
    go_wp2_with fail
    refine hP.mono ?_
    clear hP
    rintro e w' ⟨rfl, rfl⟩
    go_wp2_with fail
    refine hE.mono ?_
    clear hE
    rintro e w' ⟨rfl, rfl⟩
    go_wp2
    go_ret
    exact ⟨rfl, hB⟩
end Go.Proofs.Qxb6000100a
