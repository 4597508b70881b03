import Derived.Test.Qxb6000100aPLit
namespace Go.Proofs.Qxb6000100a
set_option linter.unusedVariables false
set_option linter.unusedSimpArgs false
open Go.RowKit

theorem pval_any (b off len cap i : Nat) (zs : List Int) (w : World) (hz : zs.length = len) (hi : i ≤ len) (hl : len ≤ 1048576) (hlc : len ≤ cap) (hc : Bytes w b off zs) (hB : b < w.heap.size) (hin : InByte zs) :
    Calls Try.prog 18 #[.slice (some ⟨b, off, none⟩) len cap, .int .i64 i] w fun e w' => Below w.heap.size w w' ∧
      ((∃ m, IsVal zs i m ∧ e = .returned (.tuple #[.slice (some ⟨b, off + i, none⟩) (m - i) (cap - i), .int .i64 (m : Int)])) ∨ ((∀ m, ¬ IsVal zs i m) ∧ e = .returned (.tuple #[.slice none 0 0, .int .i64 (-1)]))) := by
  by_cases hi' : i < len
  · by_cases h34 : zs.getD i 0 = 34
    · by_cases hex : ∃ j, IsStr zs i j
      · obtain ⟨j, hj⟩ := hex
        refine (v_str b off len cap i j zs w hz hl hlc hc hj).mono ?_
        rintro e w' ⟨rfl, hb⟩
        exact ⟨hb, .inl ⟨j + 1, ⟨by omega, .inl ⟨j, hj, rfl⟩⟩, rfl⟩⟩
      · refine (v_str_none b off len cap i zs w hz hi' hl hc h34 (fun j hj => hex ⟨j, hj⟩)).mono ?_
        rintro e w' ⟨rfl, hb⟩
        refine ⟨hb, .inr ⟨?_, rfl⟩⟩
        rintro m ⟨_, ⟨j, hj, _⟩ | ⟨h, _⟩ | ⟨h, h', _⟩ | ⟨h, _⟩⟩
        · exact hex ⟨j, hj⟩
        · omega
        · omega
        · exact h h34
    · by_cases hd : Dig (zs.getD i 0)
      · by_cases h48 : zs.getD i 0 = 48
        · have c0 := hc i (by omega)
          rw [h48] at c0
          refine (v_zero b off len cap i w hi' hl hlc c0).mono ?_
          rintro e w' ⟨rfl, hb⟩
          refine ⟨hb, .inl ⟨i + 1, ⟨by omega, .inr (.inl ⟨h48, rfl⟩)⟩, ?_⟩⟩
          rw [Nat.add_sub_cancel_left]
          rfl
        · have h1 : 49 ≤ zs.getD i 0 := by have := hd.1; omega
          obtain ⟨m, hm⟩ := isNum_exists zs i (by omega)
          refine (v_num b off len cap i m zs w hz hl hlc hc h1 hd.2 hm).mono ?_
          rintro e w' ⟨rfl, hb⟩
          exact ⟨hb, .inl ⟨m, ⟨by omega, .inr (.inr (.inl ⟨h1, hd.2, hm⟩))⟩, rfl⟩⟩
      · refine (v_lit b off len cap i zs w hz hi' hl hlc hc hB hin h34 hd).mono ?_
        rintro e w' ⟨hb, ⟨m, hm, rfl⟩ | ⟨hn, rfl⟩⟩
        · exact ⟨hb, .inl ⟨m, ⟨by omega, .inr (.inr (.inr ⟨h34, hd, hm⟩))⟩, rfl⟩⟩
        · refine ⟨hb, .inr ⟨?_, rfl⟩⟩
          rintro m ⟨_, ⟨j, hj, _⟩ | ⟨h, _⟩ | ⟨h, h', _⟩ | ⟨_, _, h⟩⟩
          · exact h34 hj.2.2.1
          · exact hd ⟨by omega, by omega⟩
          · exact hd ⟨by omega, by omega⟩
          · exact hn m h
  · obtain rfl : i = len := by omega
    refine (v_end _ i cap w).mono ?_
    rintro e w' ⟨rfl, hb⟩
    refine ⟨hb, .inr ⟨?_, rfl⟩⟩
    rintro m ⟨h, _⟩
    omega

set_option maxHeartbeats 400000 in
theorem zz_some (b off len cap i m d : Nat) (zs : List Int) (w : World) (hz : zs.length = len) (hl : len ≤ 1048576) (hlc : len ≤ cap) (hc : Bytes w b off zs) (hB : b < w.heap.size) (hin : InByte zs) (hm : IsVal zs i m) (hd : d = m - i) :
    Calls Try.prog 14 #[.slice (some ⟨b, off, none⟩) len cap, .int .i64 i] w fun e w' => e = .returned (.tuple #[.slice (some ⟨b, off + i, none⟩) d (cap - i), .int .i64 (m : Int)]) ∧ Below w.heap.size w w' := by
  subst hd
  have hP : Calls Try.prog 18 #[.slice (some ⟨b, off, none⟩) len cap, .int .i64 i] w fun e w' => e = .returned (.tuple #[.slice (some ⟨b, off + i, none⟩) (m - i) (cap - i), .int .i64 (m : Int)]) ∧ Below w.heap.size w w' := by
    refine (pval_any b off len cap i zs w hz (by have := hm.1; omega) hl hlc hc hB hin).mono ?_
    rintro e w' ⟨hb, ⟨m', hm', rfl⟩ | ⟨hn, _⟩⟩
    · rw [hm'.unique hm]; exact ⟨rfl, hb⟩
    · exact absurd hm (hn m)
  clear hc hm hin
  go_enter Try.func14, Try.ntmps14
  go_wp2_with fail
  refine hP.mono ?_
  clear hP
  rintro e w' ⟨rfl, hb⟩
  go_wp2
  go_ret2
  exact ⟨rfl, hb⟩

set_option maxHeartbeats 400000 in
theorem zz_none (b off len cap i : Nat) (zs : List Int) (w : World) (hz : zs.length = len) (hi : i ≤ len) (hl : len ≤ 1048576) (hlc : len ≤ cap) (hc : Bytes w b off zs) (hB : b < w.heap.size) (hin : InByte zs) (hm : ∀ m, ¬ IsVal zs i m) :
    Calls Try.prog 14 #[.slice (some ⟨b, off, none⟩) len cap, .int .i64 i] w fun e w' => e = .returned (.tuple #[.slice none 0 0, .int .i64 (-1)]) ∧ Below w.heap.size w w' := by
  have hP : Calls Try.prog 18 #[.slice (some ⟨b, off, none⟩) len cap, .int .i64 i] w fun e w' => e = .returned (.tuple #[.slice none 0 0, .int .i64 (-1)]) ∧ Below w.heap.size w w' := by
    refine (pval_any b off len cap i zs w hz hi hl hlc hc hB hin).mono ?_
    rintro e w' ⟨hb, ⟨m', hm', rfl⟩ | ⟨hn, rfl⟩⟩
    · exact absurd hm' (hm m')
    · exact ⟨rfl, hb⟩
  clear hc hm hin
  go_enter Try.func14, Try.ntmps14
  go_wp2_with fail
  refine hP.mono ?_
  clear hP
  rintro e w' ⟨rfl, hb⟩
  go_wp2
  go_ret2
  exact ⟨rfl, hb⟩

set_option maxHeartbeats 400000 in
theorem zz_end (a : Option Addr) (len cap : Nat) (w : World) :
    Calls Try.prog 14 #[.slice a len cap, .int .i64 len] w fun e w' => e = .returned (.tuple #[.slice none 0 0, .int .i64 (-1)]) ∧ Below w.heap.size w w' := by
  have hP := v_end a len cap w
  go_enter Try.func14, Try.ntmps14
  go_wp2_with fail
  refine hP.mono ?_
  clear hP
  rintro e w' ⟨rfl, hb⟩
  go_wp2
  go_ret2
  exact ⟨rfl, hb⟩
end Go.Proofs.Qxb6000100a
