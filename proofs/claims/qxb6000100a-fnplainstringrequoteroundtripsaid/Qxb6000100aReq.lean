import Derived.Test.Qxb6000100aPStr
import Derived.Test.Qxb6000100aSame
import Derived.Test.Qxb6000100aSegs
import Derived.Test.Qxb6000100aEarly
namespace Go.Proofs.Qxb6000100a
set_option linter.unusedVariables false
set_option linter.unusedSimpArgs false
open Go.RowKit

theorem whole {zs : List Int} {i j m : Nat} (h : IsStr zs i j) (hm : m = j - (i + 1)) : [34] ++ (zs.drop (i + 1)).take m ++ [34] ++ zs.drop (j + 1) = zs.drop i := by
  obtain ⟨a1, a2, a3, a4, a5⟩ := h
  subst hm
  have g1 : zs.drop i = 34 :: zs.drop (i + 1) := by
    rw [List.drop_eq_getElem_cons (by omega : i < zs.length)]
    congr 1
    simpa [List.getD, show i < zs.length by omega] using a3
  have g2 : zs.drop j = 34 :: zs.drop (j + 1) := by
    rw [List.drop_eq_getElem_cons a2]
    congr 1
    simpa [List.getD, a2] using a4
  have g3 : (zs.drop (i + 1)).drop (j - (i + 1)) = zs.drop j := by
    rw [List.drop_drop]; congr 1; omega
  rw [g1]
  have g4 := List.take_append_drop (j - (i + 1)) (zs.drop (i + 1))
  rw [g3, g2] at g4
  simp only [List.cons_append, List.nil_append, List.append_assoc]
  rw [g4]

theorem isStr_drop {zs : List Int} {i j : Nat} (h : IsStr zs i j) : IsStr (zs.drop i) 0 (j - i) := by
  obtain ⟨a1, a2, a3, a4, a5⟩ := h
  have g : ∀ t, (zs.drop i).getD t 0 = zs.getD (i + t) 0 := fun t => by simp [List.getD]
  refine ⟨by omega, by rw [List.length_drop]; omega, by rw [g]; exact a3, ?_, ?_⟩
  · rw [g, show i + (j - i) = j by omega]; exact a4
  · intro t h1 h2
    rw [g]
    exact a5 _ (by omega) (by omega)

theorem whole_cells {zs : List Int} {i j m : Nat} (h : IsStr zs i j) (hm : m = j - (i + 1)) :
    Value.int IntKind.u8 34 :: (List.take m (List.drop (i + 1) (List.map (Value.int IntKind.u8) zs)) ++ Value.int IntKind.u8 34 :: List.drop (j + 1) (List.map (Value.int IntKind.u8) zs)) = (zs.drop i).map (Value.int .u8) := by
  have := congrArg (List.map (Value.int .u8)) (whole h hm)
  rw [← this]
  simp

set_option maxHeartbeats 400000 in
theorem req_in (a : Option Addr) (len cap i : Nat) (z : List Int) (w : World) (hr : Row w a len cap z) (h : len ≤ 1048576) (hi : i ≤ len) :
    Calls Try.prog 4 #[.slice a len cap, .int .i64 i] w fun e w' => e = .returned (.bool true) ∧ Below w.heap.size w w' := by
  have hlen := hr.length
  have d1 : decide ((i : Int) < 0) = false := decide_eq_false (by omega)
  have d2 : decide ((len : Int) < i) = false := decide_eq_false (by omega)
  have HC := clone_any a len cap z w hr h
  clear hr
  go_enter Try.func4, Try.ntmps4
  go_wp2_with (first | (go_at_call 12; refine (bytes12 _ _ _ _ _ h).mono ?_; rintro e w' ⟨rfl, rfl⟩))
  refine HC.mono ?_
  clear HC
  rintro e w1 ⟨hB, ⟨rfl, rfl⟩ | ⟨rfl, hs, hb⟩⟩
  · obtain rfl : i = 0 := by omega
    go_wp2_with fail
    refine (pstr_none_end none 0 0 _).mono ?_
    rintro e w' ⟨rfl, rfl⟩
    go_wp2
    go_ret
    exact ⟨rfl, hB⟩
  generalize List.take len z = zs at hlen hb
  clear z
  by_cases hex : ∃ j, IsStr zs i j
  · obtain ⟨j, hj⟩ := hex
    obtain ⟨m, hm⟩ : ∃ m, m = j - (i + 1) := ⟨_, rfl⟩
    obtain ⟨q, hq⟩ : ∃ q, q = len - i := ⟨_, rfl⟩
    have b1 : i < j := hj.1
    have b2 : j < len := by have := hj.2.1; omega
    have b3 : i + 1 + m ≤ j := by omega
    have b4 : j ≤ i + 1 + m := by omega
    have b5 : i + q ≤ len := by omega
    have b6 : len ≤ i + q := by omega
    have hP := pstr_some w.heap.size 0 len len i j m zs w1 hlen h (Nat.le_refl _) hb hj hm
    have HJ : Hid (IsStr zs i j) := hj
    have HL : Hid (zs.length = len) := hlen
    have HB : Hid (Bytes w1 w.heap.size 0 zs) := hb
    clear hj hm hq hlen hb
    obtain ⟨i0, hi0, hz0, hz1, hz2⟩ := info_parts Try.info5
    go_wp2_with fail
    refine hP.mono ?_
    clear hP
    rintro e w' ⟨rfl, rfl⟩
    go_wp2_with (first | (at_make; refine wpList_make_own _ rfl _ _ 22 rfl w1.heap.size 5 i0 (.int .u8 0) 1 Try.underlying22 hi0 hz0 hz1 _ _ _ q rfl rfl (by omega) (by rw [hz2]; omega) (by unfold maxLen; omega) (Nat.le_refl _) ?_))
    intro w2 hown2 hgrow2
    go_wp2_with (first | (at_builtin; refine wpList_append_fits _ rfl (.tmp 44) (.tmp 45) 22 rfl w1.heap.size 5 i0 1 Try.underlying22 hi0 hz1 w1.heap.size 0 q [] rfl (hown2.alloc _) ⟨w2.heap.size, 0, none⟩ 1 1 [.int .u8 34] rfl rfl (cell_one_new _ _ _) (ints_oneCell .u8 [34]) (by omega) ?_))
    intro w3 hown3 hgrow3
    have hB2 : Below w1.heap.size w1 w2 := (Below.refl _ _).grown hgrow2 (Nat.le_refl _) (by simp)
    have hB3 : Below w1.heap.size w1 w3 := (hB2.alloc hB2.size _).grown hgrow3 (by have := hB2.size; simp; omega) (by simp)
    have HB3 : Hid (Bytes w3 w.heap.size 0 zs) := HB.out.later hB3 hs
    clear hgrow2 hgrow3 hown2
    go_wp2_with (first | (at_builtin; refine wpList_append_fits _ rfl (.tmp 47) (.tmp 48) 22 rfl w1.heap.size 5 i0 1 Try.underlying22 hi0 hz1 w1.heap.size 1 q [.int .u8 34] rfl hown3 ⟨w.heap.size, i + 1, none⟩ m (len - (i + 1)) (((zs.drop (i + 1)).take m).map (Value.int .u8)) rfl (by have := HL.out; simp; omega) (seg_cells HB3.out _ _) (ints_oneCell .u8 _) (by omega) ?_))
    intro w4 hown4 hgrow4
    have hB4 : Below w1.heap.size w1 w4 := hB3.grown hgrow4 hB3.size (by simp)
    clear hgrow4 hown3 HB3
    go_wp2_with (first | (at_builtin; refine wpList_append_fits _ rfl (.tmp 50) (.tmp 51) 22 rfl w1.heap.size 5 i0 1 Try.underlying22 hi0 hz1 w1.heap.size (1 + m) q _ rfl (hown4.alloc _) ⟨w4.heap.size, 0, none⟩ 1 1 [.int .u8 34] rfl rfl (cell_one_new _ _ _) (ints_oneCell .u8 [34]) (by omega) ?_))
    intro w5 hown5 hgrow5
    have hB5 : Below w1.heap.size w1 w5 := (hB4.alloc hB4.size _).grown hgrow5 (by have := hB4.size; simp; omega) (by simp)
    have HB5 : Hid (Bytes w5 w.heap.size 0 zs) := HB.out.later hB5 hs
    clear hgrow5 hown4
    go_wp2_with (first | (at_builtin; refine wpList_append_fits_any _ rfl (.tmp 53) (.tmp 56) 22 rfl w1.heap.size 5 i0 1 Try.underlying22 hi0 hz1 w1.heap.size (1 + m + 1) q _ rfl hown5 _ (len - (j + 1)) _ ((zs.drop (j + 1)).map (Value.int .u8)) rfl (by have := HL.out; simp; omega) (by intro h; split at h <;> simp at h) (drop_cells HB5.out HL.out _ (by intro h; first | rfl | simp [h])) (ints_oneCell .u8 _) (by omega) ?_))
    all_goals
      intro w6 hown6 hgrow6
      rw [whole_cells HJ.out (by omega)] at hown6
      have hB6 : Below w1.heap.size w1 w6 := hB5.grown hgrow6 hB5.size (by simp)
      clear hgrow6
      have HB6 : Bytes w6 w.heap.size 0 zs := HB.out.later hB6 hs
      first | rw [show 1 + m + 1 + (len - (j + 1)) = q by omega] at hown6 ⊢ | rw [show 1 + m + 1 = q by omega] at hown6 ⊢
      have hL6 : (zs.drop i).length = q := by rw [List.length_drop, HL.out]; omega
      have HE6 : Bytes w6 w1.heap.size 0 (zs.drop i) := bytes_of_owned hown6 hL6
      have hlt6 := owned_lt hown6
      obtain ⟨u, hu⟩ : ∃ u, u = j - i := ⟨_, rfl⟩
      have b7 : u + i ≤ j := by omega
      have b8 : j ≤ u + i := by omega
      have hP : Calls Try.prog 9 #[.slice (some ⟨w1.heap.size, 0, none⟩) q q, .int .i64 0] w6 _ := pstr_some w1.heap.size 0 q q 0 u m (zs.drop i) w6 hL6 (by omega) (Nat.le_refl _) HE6 (by rw [hu]; exact isStr_drop HJ.out) (by omega)
      have hbe : ((u : Int) + 1 == (m : Int) + 2) = true := beq_iff_eq.2 (by omega)
      have s1 : Bytes w6 w.heap.size (i + 1) ((zs.drop (i + 1)).take m) := by have := HB6.seg (i + 1) m; rwa [Nat.zero_add] at this
      have s2 : Bytes w6 w1.heap.size 1 ((zs.drop (i + 1)).take m) := by have := HE6.seg 1 m; rwa [Nat.zero_add, List.drop_drop] at this
      have s3 : ((zs.drop (i + 1)).take m).length = m := by rw [List.length_take, List.length_drop, HL.out]; omega
      generalize (zs.drop (i + 1)).take m = seg at s1 s2 s3
      have hlt0 : w.heap.size < w6.heap.size := by omega
      have HS := fun c c' => same_row w1.heap.size 1 c w.heap.size (i + 1) c' m seg w6 s3 (by omega) s2 s1 hlt6 hlt0
      clear hown5 HB5 hown6 hu HE6 HB6 s1 s2 s3
      go_wp2_with fail
      refine hP.mono ?_
      clear hP
      rintro e w' ⟨rfl, rfl⟩
      go_wp2_with fail
      refine (HS _ _).mono ?_
      clear HS
      rintro e w7 ⟨rfl, hB7⟩
      go_wp2
      go_ret
      exact ⟨rfl, hB.trans ((hB6.mono (by omega)).trans (hB7.mono (by omega)))⟩
  · have hP := pstr_none w.heap.size 0 len len i zs w1 hlen hi h hb (fun j hj => hex ⟨j, hj⟩)
    clear hex hb
    go_wp2_with fail
    refine hP.mono ?_
    clear hP
    rintro e w' ⟨rfl, rfl⟩
    go_wp2
    go_ret
    exact ⟨rfl, hB⟩
end Go.Proofs.Qxb6000100a
