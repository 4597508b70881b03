import Derived.Test.Qxb6000100aZZ
import Derived.Test.Qxb6000100aCutPlain
import Derived.Test.Qxb6000100aSame
import Derived.Test.Qxb6000100aEarly
import Derived.OpenShut
namespace Go.Proofs.Qxb6000100a
set_option linter.unusedVariables false
set_option linter.unusedSimpArgs false
open Go.RowKit

theorem Row.inByte {w : World} {a : Option Addr} {len cap : Nat} {zs : List Int} (h : Row w a len cap zs) : InByte (zs.take len) := by
  rcases h with ⟨_, _, _, rfl⟩ | ⟨x, _, _, _, _, _, h⟩
  · intro z hz; simp at hz
  · intro z hz
    exact bounds_u8 (h z (List.mem_of_mem_take hz))

set_option maxHeartbeats 800000 in
theorem cut_in (a : Option Addr) (len cap i : Nat) (z : List Int) (w : World) (hr : Row w a len cap z) (h : len ≤ 1048576) (hi : i ≤ len) :
    Calls Try.prog 6 #[.slice a len cap, .int .i64 i] w fun e w' => e = .returned (.bool true) ∧ Below w.heap.size w w' := by
  have q22 : ∀ (w : World) (a : Option Addr) (n c n' c' : Nat), (binOp .eql 22 (.slice a n c) (.slice none n' c')).run Try.prog w = .ok (.bool a.isNone) w := fun w a n c n' c' => Lib.run_eql_slice_nil w _ _ a n c n' c' Try.underlying22
  have hlen := hr.length
  have hin := hr.inByte
  have d1 : decide ((i : Int) < 0) = false := decide_eq_false (by omega)
  have d2 : decide ((len : Int) < i) = false := decide_eq_false (by omega)
  have HC := clone_any a len cap z w hr h
  clear hr
  go_enter Try.func6, Try.ntmps6
  go_wp2_with (first | (go_at_call 16; refine (bytes16 _ _ _ _ _ h).mono ?_; rintro e w' ⟨rfl, rfl⟩))
  refine HC.mono ?_
  clear HC
  rintro e w1 ⟨hB, ⟨rfl, rfl⟩ | ⟨rfl, hs, hb⟩⟩
  · obtain rfl : i = 0 := by omega
    go_wp2_with fail
    refine (zz_end none 0 0 _).mono ?_
    rintro e w2 ⟨rfl, hB2⟩
    go_wp2_with fail
    refine (zz_end none 0 0 _).mono ?_
    rintro e w3 ⟨rfl, hB3⟩
    go_wp2
    go_ret
    exact ⟨rfl, (hB.trans (hB2.mono hB.size)).trans (hB3.mono (Nat.le_trans hB.size hB2.size))⟩
  generalize List.take len z = zs at hlen hb hin
  clear z
  by_cases hex : ∃ m, IsVal zs i m
  · obtain ⟨m, hm⟩ := hex
    obtain ⟨d, hd⟩ : ∃ d, d = m - i := ⟨_, rfl⟩
    have b1 : i < m := hm.bounds.1
    have b2 : m ≤ len := by have := hm.bounds.2; omega
    have b3 : i + d ≤ m := by omega
    have b4 : m ≤ i + d := by omega
    have hil : ¬ len = i := by omega
    have e1 : ((d : Int) != (m : Int) - i) = false := by simp only [bne_eq_false_iff_eq]; omega
    have e2 : ((m : Int) == (m : Int)) = true := by simp
    have hP := zz_some w.heap.size 0 len len i m d zs w1 hlen h (Nat.le_refl _) hb hs hin hm hd
    have HB : Hid (Bytes w1 w.heap.size 0 zs) := hb
    have HI : Hid (InByte zs) := hin
    have HV : Hid (IsVal zs i m) := hm
    have HL : Hid (zs.length = len) := hlen
    clear hb hin hm hlen hd
    go_wp2_with fail
    refine hP.mono ?_
    clear hP
    rintro e w2 ⟨rfl, hB2⟩
    have hs2 : w.heap.size < w2.heap.size := by have := hB2.size; omega
    have HB2 : Hid (Bytes w2 w.heap.size 0 zs) := HB.out.later hB2 hs
    have hb2 := HB2.out.seg i (len - i)
    rw [Nat.zero_add, List.take_of_length_le (by rw [List.length_drop, HL.out]; exact Nat.le_refl _)] at hb2
    have hP : Calls Try.prog 14 #[.slice (some ⟨w.heap.size, i, none⟩) (len - i) (len - i), .int .i64 0] w2 _ :=
      zz_some w.heap.size i (len - i) (len - i) 0 d d (zs.drop i) w2 (by rw [List.length_drop, HL.out]) (by omega) (Nat.le_refl _) hb2 hs2 (fun z hz => HI.out z (List.mem_of_mem_drop hz)) ((isVal_drop_iff zs i d).2 (by rw [show i + d = m by omega]; exact HV.out)) rfl
    clear hb2
    go_wp2_with fail
    refine hP.mono ?_
    clear hP
    rintro e w3 ⟨rfl, hB3⟩
    have hs3 : w.heap.size < w3.heap.size := by have := hB3.size; omega
    have HB3 : Hid (Bytes w3 w.heap.size 0 zs) := HB2.out.later hB3 hs2
    have hSeg : Bytes w3 w.heap.size i ((zs.drop i).take d) := by have := HB3.out.seg i d; rwa [Nat.zero_add] at this
    have hSl : ((zs.drop i).take d).length = d := by rw [List.length_take, List.length_drop, HL.out]; omega
    have HS := fun c c' => same_row w.heap.size i c w.heap.size i c' d _ w3 hSl (by omega) hSeg hSeg hs3 hs3
    clear hSeg hSl
    go_wp2_with fail
    refine (HS _ _).mono ?_
    clear HS
    rintro e w4 ⟨rfl, hB4⟩
    have hs4 : w.heap.size < w4.heap.size := by have := hB4.size; omega
    have HB4 : Hid (Bytes w4 w.heap.size 0 zs) := HB3.out.later hB4 hs3
    have hb4 := HB4.out.seg 0 m
    rw [List.drop_zero] at hb4
    have hP := zz_some w.heap.size 0 m len i m d (zs.take m) w4 (by rw [List.length_take, HL.out]; omega) (by omega) b2 hb4 hs4 (fun z hz => HI.out z (List.mem_of_mem_take hz)) (isVal_take HV.out) (by omega)
    clear hb4
    go_wp2_with fail
    refine hP.mono ?_
    clear hP
    rintro e w5 ⟨rfl, hB5⟩
    have hs5 : w.heap.size < w5.heap.size := by have := hB5.size; omega
    have HB5 : Hid (Bytes w5 w.heap.size 0 zs) := HB4.out.later hB5 hs4
    have hSeg : Bytes w5 w.heap.size i ((zs.drop i).take d) := by have := HB5.out.seg i d; rwa [Nat.zero_add] at this
    have hSl : ((zs.drop i).take d).length = d := by rw [List.length_take, List.length_drop, HL.out]; omega
    have HS := fun c c' => same_row w.heap.size i c w.heap.size i c' d _ w5 hSl (by omega) hSeg hSeg hs5 hs5
    clear hSeg hSl
    go_wp2_with fail
    refine (HS _ _).mono ?_
    clear HS
    rintro e w6 ⟨rfl, hB6⟩
    go_wp2
    go_ret
    refine ⟨rfl, ?_⟩
    exact ((((hB.trans (hB2.mono (by omega))).trans (hB3.mono (by omega))).trans (hB4.mono (by omega))).trans (hB5.mono (by omega))).trans (hB6.mono (by omega))
  · have hnn : ∀ m, ¬ IsVal zs i m := fun m hm => hex ⟨m, hm⟩
    have hP := zz_none w.heap.size 0 len len i zs w1 hlen hi h (Nat.le_refl _) hb hs hin hnn
    have HB : Hid (Bytes w1 w.heap.size 0 zs) := hb
    have HI : Hid (InByte zs) := hin
    have HN : Hid (∀ m, ¬ IsVal zs i m) := hnn
    have HL : Hid (zs.length = len) := hlen
    clear hex hb hin hnn hlen
    by_cases hil : i < len
    · have hil' : ¬ len = i := by omega
      go_wp2_with fail
      refine hP.mono ?_
      clear hP
      rintro e w2 ⟨rfl, hB2⟩
      have hb2 := (HB.out.later hB2 hs).seg i (len - i)
      rw [Nat.zero_add, List.take_of_length_le (by rw [List.length_drop, HL.out]; exact Nat.le_refl _)] at hb2
      have hs2 : w.heap.size < w2.heap.size := by have := hB2.size; omega
      have hP : Calls Try.prog 14 #[.slice (some ⟨w.heap.size, i, none⟩) (len - i) (len - i), .int .i64 0] w2 _ := zz_none w.heap.size i (len - i) (len - i) 0 (zs.drop i) w2 (by rw [List.length_drop, HL.out]) (Nat.zero_le _) (by omega) (Nat.le_refl _) hb2 hs2 (fun z hz => HI.out z (List.mem_of_mem_drop hz)) (fun m hm => HN.out _ ((isVal_drop_iff zs i m).1 hm))
      clear hb2
      go_wp2_with fail
      refine hP.mono ?_
      clear hP
      rintro e w3 ⟨rfl, hB3⟩
      go_wp2
      go_ret
      exact ⟨rfl, (hB.trans (hB2.mono hB.size)).trans (hB3.mono (by omega))⟩
    · obtain rfl : i = len := by omega
      go_wp2_with fail
      refine hP.mono ?_
      clear hP
      rintro e w2 ⟨rfl, hB2⟩
      go_wp2_with fail
      refine (zz_end _ 0 _ _).mono ?_
      rintro e w3 ⟨rfl, hB3⟩
      go_wp2
      go_ret
      exact ⟨rfl, (hB.trans (hB2.mono hB.size)).trans (hB3.mono (Nat.le_trans hB.size hB2.size))⟩
end Go.Proofs.Qxb6000100a
