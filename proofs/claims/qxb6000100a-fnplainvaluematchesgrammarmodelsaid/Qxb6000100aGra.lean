import Derived.Test.Qxb6000100aZZ
import Derived.Test.Qxb6000100aVEnd
import Derived.Test.Qxb6000100aSame
import Derived.Test.Qxb6000100aEarly
import Derived.OpenShut
namespace Go.Proofs.Qxb6000100a
set_option linter.unusedVariables false
set_option linter.unusedSimpArgs false
open Go.RowKit

theorem row_inByte {w : World} {a : Option Addr} {len cap : Nat} {zs : List Int} (h : Row w a len cap zs) : InByte (zs.take len) := by
  rcases h with ⟨_, _, _, rfl⟩ | ⟨x, _, _, _, _, _, h⟩
  · intro z hz; simp at hz
  · intro z hz
    exact bounds_u8 (h z (List.mem_of_mem_take hz))

theorem ve_some (b off len cap i m : Nat) (zs : List Int) (w : World) (hz : zs.length = len) (hl : len ≤ 1048576) (hc : Bytes w b off zs) (hB : b < w.heap.size) (hm : IsVal zs i m) :
    Calls Try.prog 15 #[.slice (some ⟨b, off, none⟩) len cap, .int .i64 i] w fun e w' => e = .returned (.int .i64 (m : Int)) ∧ Below w.heap.size w w' := by
  obtain ⟨hi, ⟨j, hj, rfl⟩ | ⟨h1, rfl⟩ | ⟨h1, h2, h3⟩ | ⟨h1, h2, h3⟩⟩ := hm
  · have c0 := hc i hi
    rw [hj.2.2.1] at c0
    exact ve_str b off len cap i _ w (by omega) hl c0 (pend_some b off len cap i j zs w hz hl hc hj)
  · obtain ⟨m, hm⟩ := isNum_exists zs i hi
    refine (ve_num b off len cap i m zs w hz hl hc ⟨by omega, by omega⟩ hm).mono ?_
    rintro e w' ⟨rfl, hb⟩
    exact ⟨num_ret (by unfold numEnd; rw [if_pos h1]; omega), hb⟩
  · refine (ve_num b off len cap i m zs w hz hl hc ⟨by omega, by omega⟩ h3).mono ?_
    rintro e w' ⟨rfl, hb⟩
    exact ⟨num_ret (by unfold numEnd; rw [if_neg (by omega)]), hb⟩
  · refine (ve_lit b off len cap i zs w hz (by omega) hl hc hB h1 h2).mono ?_
    rintro e w' ⟨hb, ⟨m', hm', rfl⟩ | ⟨hn, _⟩⟩
    · rw [hm'.unique h3]; exact ⟨rfl, hb⟩
    · exact absurd h3 (hn m)

theorem ve_none (b off len cap i : Nat) (zs : List Int) (w : World) (hz : zs.length = len) (hi : i ≤ len) (hl : len ≤ 1048576) (hc : Bytes w b off zs) (hB : b < w.heap.size) (hm : ∀ m, ¬ IsVal zs i m) :
    Calls Try.prog 15 #[.slice (some ⟨b, off, none⟩) len cap, .int .i64 i] w fun e w' => e = .returned (.int .i64 (-1)) ∧ Below w.heap.size w w' := by
  by_cases hi' : i < len
  · by_cases h34 : zs.getD i 0 = 34
    · have c0 := hc i (by omega)
      rw [h34] at c0
      exact ve_str b off len cap i _ w (by omega) hl c0 (pend_none b off len cap i zs w hz hi hl hc (fun j hj => hm (j + 1) ⟨by omega, .inl ⟨j, hj, rfl⟩⟩))
    · by_cases hd : Dig (zs.getD i 0)
      · exfalso
        by_cases h48 : zs.getD i 0 = 48
        · exact hm (i + 1) ⟨by omega, .inr (.inl ⟨h48, rfl⟩)⟩
        · obtain ⟨m, h⟩ := isNum_exists zs i (by omega)
          exact hm m ⟨by omega, .inr (.inr (.inl ⟨by have := hd.1; omega, hd.2, h⟩))⟩
      · refine (ve_lit b off len cap i zs w hz hi' hl hc hB h34 hd).mono ?_
        rintro e w' ⟨hb, ⟨m', hm', rfl⟩ | ⟨hn, rfl⟩⟩
        · exact absurd ⟨by omega, .inr (.inr (.inr ⟨h34, hd, hm'⟩))⟩ (hm m')
        · exact ⟨rfl, hb⟩
  · exact ve_past _ len cap i w (by omega) (by omega)

set_option maxHeartbeats 800000 in
theorem gra_in (a : Option Addr) (len cap i : Nat) (z : List Int) (w : World) (hr : Row w a len cap z) (h : len ≤ 1048576) (hi : i ≤ len) :
    Calls Try.prog 5 #[.slice a len cap, .int .i64 i] w fun e w' => e = .returned (.bool true) ∧ Below w.heap.size w w' := by
  have q22 : ∀ (w : World) (a : Option Addr) (n c n' c' : Nat), (binOp .eql 22 (.slice a n c) (.slice none n' c')).run Try.prog w = .ok (.bool a.isNone) w := fun w a n c n' c' => Lib.run_eql_slice_nil w _ _ a n c n' c' Try.underlying22
  have hlen := hr.length
  have hin := row_inByte hr
  have d1 : decide ((i : Int) < 0) = false := decide_eq_false (by omega)
  have d2 : decide ((len : Int) < i) = false := decide_eq_false (by omega)
  have HC := clone_any a len cap z w hr h
  clear hr
  go_enter Try.func5, Try.ntmps5
  go_wp2_with (first | (go_at_call 13; refine (bytes13 _ _ _ _ _ h).mono ?_; rintro e w' ⟨rfl, rfl⟩))
  refine HC.mono ?_
  clear HC
  rintro e w1 ⟨hB, ⟨rfl, rfl⟩ | ⟨rfl, hs, hb⟩⟩
  · obtain rfl : i = 0 := by omega
    go_wp2_with fail
    refine (zz_end none 0 0 _).mono ?_
    rintro e w2 ⟨rfl, hB2⟩
    go_wp2_with fail
    refine (ve_past none 0 0 0 _ (Nat.le_refl _) (by omega)).mono ?_
    rintro e w3 ⟨rfl, hB3⟩
    go_wp2
    go_ret
    exact ⟨rfl, (hB.trans (hB2.mono hB.size)).trans (hB3.mono (Nat.le_trans hB.size hB2.size))⟩
  generalize List.take len z = zs at hlen hb hin
  clear z
  by_cases hex : ∃ m, IsVal zs i m
  · obtain ⟨m, hm⟩ := hex
    obtain ⟨d, hd⟩ : ∃ d, d = m - i := ⟨_, rfl⟩
    have b1 : i < m := hm.bounds.1
    have b2 : m ≤ len := by have := hm.bounds.2; omega
    have b3 : i + d ≤ m := by omega
    have b4 : m ≤ i + d := by omega
    have hil : ¬ len = i := by omega
    have e1 : ((d : Int) == (m : Int) - i) = true := beq_iff_eq.2 (by omega)
    have e2 : ((m : Int) == (m : Int)) = true := by simp
    have e3 : m - i = d := hd.symm
    have hP := zz_some w.heap.size 0 len len i m d zs w1 hlen h (Nat.le_refl _) hb hs hin hm hd
    have HB : Hid (Bytes w1 w.heap.size 0 zs) := hb
    have HV : Hid (IsVal zs i m) := hm
    have HL : Hid (zs.length = len) := hlen
    clear hb hin hm hlen hd
    go_wp2_with fail
    refine hP.mono ?_
    clear hP
    rintro e w2 ⟨rfl, hB2⟩
    have hs2 : w.heap.size < w2.heap.size := by have := hB2.size; omega
    have HB2 : Hid (Bytes w2 w.heap.size 0 zs) := HB.out.later hB2 hs
    have hP := ve_some w.heap.size 0 len len i m zs w2 HL.out h HB2.out hs2 HV.out
    go_wp2_with fail
    refine hP.mono ?_
    clear hP
    rintro e w3 ⟨rfl, hB3⟩
    have hs3 : w.heap.size < w3.heap.size := by have := hB3.size; omega
    have hSeg : Bytes w3 w.heap.size i ((zs.drop i).take d) := by have := (HB2.out.later hB3 hs2).seg i d; rwa [Nat.zero_add] at this
    have hSl : ((zs.drop i).take d).length = d := by rw [List.length_take, List.length_drop, HL.out]; omega
    have HS := fun c c' => same_row w.heap.size i c w.heap.size i c' d _ w3 hSl (by omega) hSeg hSeg hs3 hs3
    clear hSeg hSl
    go_wp2_with fail
    refine (HS _ _).mono ?_
    clear HS
    rintro e w4 ⟨rfl, hB4⟩
    go_wp2
    go_ret
    refine ⟨rfl, ?_⟩
    exact ((hB.trans (hB2.mono (by omega))).trans (hB3.mono (by omega))).trans (hB4.mono (by omega))
  · have hnn : ∀ m, ¬ IsVal zs i m := fun m hm => hex ⟨m, hm⟩
    have hP := zz_none w.heap.size 0 len len i zs w1 hlen hi h (Nat.le_refl _) hb hs hin hnn
    have HB : Hid (Bytes w1 w.heap.size 0 zs) := hb
    have HN : Hid (∀ m, ¬ IsVal zs i m) := hnn
    have HL : Hid (zs.length = len) := hlen
    clear hex hb hin hnn hlen
    go_wp2_with fail
    refine hP.mono ?_
    clear hP
    rintro e w2 ⟨rfl, hB2⟩
    have hs2 : w.heap.size < w2.heap.size := by have := hB2.size; omega
    have hP := ve_none w.heap.size 0 len len i zs w2 HL.out hi h (HB.out.later hB2 hs) hs2 HN.out
    go_wp2_with fail
    refine hP.mono ?_
    clear hP
    rintro e w3 ⟨rfl, hB3⟩
    go_wp2
    go_ret
    exact ⟨rfl, (hB.trans (hB2.mono hB.size)).trans (hB3.mono (by omega))⟩
end Go.Proofs.Qxb6000100a
