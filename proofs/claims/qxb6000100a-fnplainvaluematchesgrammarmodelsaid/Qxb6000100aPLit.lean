import Derived.Test.Qxb6000100aPVal
namespace Go.Proofs.Qxb6000100a
set_option linter.unusedVariables false
set_option linter.unusedSimpArgs false
open Go.RowKit

def InByte (zs : List Int) : Prop := ∀ z ∈ zs, 0 ≤ z ∧ z ≤ 255

theorem byte_inj {a b : Int} (ha : 0 ≤ a ∧ a ≤ 255) (hb : 0 ≤ b ∧ b ≤ 255) (h : UInt8.ofNat a.toNat = UInt8.ofNat b.toNat) : a = b := by
  have := congrArg UInt8.toNat h
  simp only [UInt8.toNat_ofNat'] at this
  omega

theorem bytes_inj : ∀ (xs ys : List Int), InByte xs → InByte ys → xs.map (fun n => UInt8.ofNat n.toNat) = ys.map (fun n => UInt8.ofNat n.toNat) → xs = ys
  | [], [], _, _, _ => rfl
  | [], _ :: _, _, _, h => by simp at h
  | _ :: _, [], _, _, h => by simp at h
  | x :: xs, y :: ys, hx, hy, h => by
    simp only [List.map_cons, List.cons.injEq] at h
    rw [byte_inj (hx x (by simp)) (hy y (by simp)) h.1, bytes_inj xs ys (fun z hz => hx z (by simp [hz])) (fun z hz => hy z (by simp [hz])) h.2]

theorem InByte.seg {zs : List Int} (h : InByte zs) (i n : Nat) : InByte ((zs.drop i).take n) :=
  fun z hz => h z (List.mem_of_mem_drop (List.mem_of_mem_take hz))

theorem str_yes {zs : List Int} {i : Nat} {L : List Int} (h : HasAt zs i L) (n : Nat) (hn : L.length = n) (LB : List UInt8) (hm : LB = L.map fun n => UInt8.ofNat n.toNat) :
    ((strOfNums ((zs.drop i).take n)).toList == LB) = true := by
  subst hn hm
  rw [ByteArray.toList_eq, strOfNums_data, h]
  simp

theorem str_no {zs : List Int} (hb : InByte zs) {i : Nat} {L : List Int} (h : ¬ HasAt zs i L) (n : Nat) (hn : L.length = n) (LB : List UInt8) (hm : LB = L.map fun n => UInt8.ofNat n.toNat) (hL : InByte L) :
    ((strOfNums ((zs.drop i).take n)).toList == LB) = false := by
  subst hn hm
  rw [ByteArray.toList_eq, strOfNums_data, beq_eq_false_iff_ne]
  exact fun e => h (bytes_inj _ _ (hb.seg _ _) hL e)

theorem tru_in : InByte tru := by unfold InByte tru; simp
theorem fal_in : InByte fal := by unfold InByte fal; simp
theorem nul_in : InByte nul := by unfold InByte nul; simp

theorem not_fits {zs : List Int} {i len n : Nat} {L : List Int} (hz : zs.length = len) (hn : L.length = n) (h0 : 0 < n) (h : ¬ i + n ≤ len) : ¬ HasAt zs i L := by
  intro hh
  have := hh.fits
  omega

theorem conv_seg {w : World} {b off : Nat} {zs : List Int} (h : Bytes w b off zs) (i n c : Nat) (hn : i + n ≤ zs.length) :
    (convert 22 9 (.slice (some ⟨b, off + i, none⟩) n c)).run Try.prog w = .ok (.string (strOfNums ((zs.drop i).take n))) w := by
  have hs := h.seg i n
  have hl : ((zs.drop i).take n).length = n := by rw [List.length_take, List.length_drop]; omega
  exact run_convert_bytes_arg w 22 5 Try.underlying22 Try.underlying5 b (off + i) n c _ hl (fun j hj => hs j (by omega)) 9 Try.underlying9

theorem lit_ret (x : Option Addr) (i n c d : Nat) (N : Int) (h : d = n) (hN : N = (i : Int) + (n : Int)) : Ending.returned (.tuple #[.slice x d c, .int .i64 N]) = Ending.returned (.tuple #[.slice x (i + n - i) c, .int .i64 ((i + n : Nat) : Int)]) := by
  subst h hN
  rw [Nat.add_sub_cancel_left]
  rfl

set_option maxHeartbeats 1600000 in
theorem v_lit (b off len cap i : Nat) (zs : List Int) (w : World) (hz : zs.length = len) (hi : i < len) (hl : len ≤ 1048576) (hlc : len ≤ cap) (hc : Bytes w b off zs) (hB : b < w.heap.size) (hin : InByte zs)
    (h1 : zs.getD i 0 ≠ 34) (h2 : ¬ Dig (zs.getD i 0)) :
    Calls Try.prog 18 #[.slice (some ⟨b, off, none⟩) len cap, .int .i64 i] w fun e w' => Below w.heap.size w w' ∧
      ((∃ m, LitEnd zs i m ∧ e = .returned (.tuple #[.slice (some ⟨b, off + i, none⟩) (m - i) (cap - i), .int .i64 (m : Int)])) ∨ ((∀ m, ¬ LitEnd zs i m) ∧ e = .returned (.tuple #[.slice none 0 0, .int .i64 (-1)]))) := by
  have c0 := hc i (by omega)
  generalize zs.getD i 0 = c at c0 h1 h2
  have n1 : ((i : Int) == (len : Int)) = false := beq_eq_false_iff_ne.2 (by omega)
  have n2 : (i : Int) < len := by omega
  have n3 : ¬ cap = i := by omega
  have e1 : (c == 34) = false := beq_eq_false_iff_ne.2 h1
  have e2 : (c == 48) = false := beq_eq_false_iff_ne.2 (fun e => h2 ⟨by omega, by omega⟩)
  have HC : Hid (Bytes w b off zs) := hc
  have HI : Hid (InByte zs) := hin
  have HZ : Hid (zs.length = len) := hz
  have h3 : ¬ 49 ≤ c ∨ (49 ≤ c ∧ ¬ c ≤ 57) := by
    by_cases h : 49 ≤ c
    · exact .inr ⟨h, fun h' => h2 ⟨by omega, h'⟩⟩
    · exact .inl h
  clear hc h1 h2 hin hz
  rcases h3 with g | ⟨g, g'⟩
  · have e3 : decide (49 ≤ c) = false := decide_eq_false g
    go_enter Try.func18, Try.ntmps18
    go_wp2
    go_loopw [19] (fun k' wr => ∃ k : Nat, k ≤ 3 ∧ k' = .int .i64 k ∧ Below w.heap.size w wr ∧ wr.cell? ⟨w.heap.size, 0, none⟩ = some (.string ⟨#[116, 114, 117, 101]⟩) ∧ wr.cell? ⟨w.heap.size, 1, none⟩ = some (.string ⟨#[102, 97, 108, 115, 101]⟩) ∧ wr.cell? ⟨w.heap.size, 2, none⟩ = some (.string ⟨#[110, 117, 108, 108]⟩) ∧ Hid ((1 ≤ k → ¬ HasAt zs i tru) ∧ (2 ≤ k → ¬ HasAt zs i fal) ∧ (3 ≤ k → ¬ HasAt zs i nul))) (fun k' _ => 3 - (intOf k').toNat)
    case atStart => exact ⟨0, by omega, rfl, (Below.refl _ _).alloc (Nat.le_refl _) _, by simp, by simp, by simp, fun h => by omega, fun h => by omega, fun h => by omega⟩
    case round =>
      obtain ⟨k, hk, rfl, hBr, g1, g2, g3, HN⟩ := hrel
      have HBr : Hid (Bytes wr b off zs) := HC.out.later hBr hB
      have hk' : k = 0 ∨ k = 1 ∨ k = 2 ∨ k = 3 := by omega
      rcases hk' with rfl | rfl | rfl | rfl
      · by_cases hf : i + 4 ≤ len
        · have cv := fun c => conv_seg HBr.out i 4 c (by rw [HZ.out]; exact hf)
          have d1 : decide ((4 : Int) ≤ (len : Int) - i) = true := decide_eq_true (by omega)
          by_cases hh : HasAt zs i tru
          · have hb : ((strOfNums ((zs.drop i).take 4)).toList == [116, 114, 117, 101]) = true := str_yes hh 4 rfl _ rfl
            generalize strOfNums ((zs.drop i).take 4) = s at cv hb
            have HH : Hid (HasAt zs i tru) := hh
            clear hh
            go_wp2
            go_ret2
            refine ⟨hBr, .inl ⟨i + 4, .inl ⟨HH.out, rfl⟩, ?_⟩⟩
            exact lit_ret _ i 4 _ _ _ (by omega) (by omega)
          · have hb : ((strOfNums ((zs.drop i).take 4)).toList == [116, 114, 117, 101]) = false := str_no HI.out hh 4 rfl _ rfl tru_in
            generalize strOfNums ((zs.drop i).take 4) = s at cv hb
            have HH : Hid (¬ HasAt zs i tru) := hh
            clear hh
            go_wp2
            go_roundw
            case rel => exact ⟨1, by omega, by go_num, hBr, g1, g2, g3, fun _ => HH.out, fun h => by omega, fun h => by omega⟩
            case measure => simp [intOf]
        · have d1 : decide ((4 : Int) ≤ (len : Int) - i) = false := decide_eq_false (by omega)
          have HH : Hid (¬ HasAt zs i tru) := not_fits (n := 4) HZ.out rfl (by omega) hf
          go_wp2
          go_roundw
          case rel => exact ⟨1, by omega, by go_num, hBr, g1, g2, g3, fun _ => HH.out, fun h => by omega, fun h => by omega⟩
          case measure => simp [intOf]
      · by_cases hf : i + 5 ≤ len
        · have cv := fun c => conv_seg HBr.out i 5 c (by rw [HZ.out]; exact hf)
          have d1 : decide ((5 : Int) ≤ (len : Int) - i) = true := decide_eq_true (by omega)
          by_cases hh : HasAt zs i fal
          · have hb : ((strOfNums ((zs.drop i).take 5)).toList == [102, 97, 108, 115, 101]) = true := str_yes hh 5 rfl _ rfl
            generalize strOfNums ((zs.drop i).take 5) = s at cv hb
            have HH : Hid (HasAt zs i fal) := hh
            clear hh
            go_wp2
            go_ret2
            refine ⟨hBr, .inl ⟨i + 5, .inr (.inl ⟨HN.out.1 (by omega), HH.out, rfl⟩), ?_⟩⟩
            exact lit_ret _ i 5 _ _ _ (by omega) (by omega)
          · have hb : ((strOfNums ((zs.drop i).take 5)).toList == [102, 97, 108, 115, 101]) = false := str_no HI.out hh 5 rfl _ rfl fal_in
            generalize strOfNums ((zs.drop i).take 5) = s at cv hb
            have HH : Hid (¬ HasAt zs i fal) := hh
            clear hh
            go_wp2
            go_roundw
            case rel => exact ⟨2, by omega, by go_num, hBr, g1, g2, g3, fun _ => HN.out.1 (by omega), fun _ => HH.out, fun h => by omega⟩
            case measure => simp [intOf]
        · have d1 : decide ((5 : Int) ≤ (len : Int) - i) = false := decide_eq_false (by omega)
          have HH : Hid (¬ HasAt zs i fal) := not_fits (n := 5) HZ.out rfl (by omega) hf
          go_wp2
          go_roundw
          case rel => exact ⟨2, by omega, by go_num, hBr, g1, g2, g3, fun _ => HN.out.1 (by omega), fun _ => HH.out, fun h => by omega⟩
          case measure => simp [intOf]
      · by_cases hf : i + 4 ≤ len
        · have cv := fun c => conv_seg HBr.out i 4 c (by rw [HZ.out]; exact hf)
          have d1 : decide ((4 : Int) ≤ (len : Int) - i) = true := decide_eq_true (by omega)
          by_cases hh : HasAt zs i nul
          · have hb : ((strOfNums ((zs.drop i).take 4)).toList == [110, 117, 108, 108]) = true := str_yes hh 4 rfl _ rfl
            generalize strOfNums ((zs.drop i).take 4) = s at cv hb
            have HH : Hid (HasAt zs i nul) := hh
            clear hh
            go_wp2
            go_ret2
            refine ⟨hBr, .inl ⟨i + 4, .inr (.inr ⟨HN.out.1 (by omega), HN.out.2.1 (by omega), HH.out, rfl⟩), ?_⟩⟩
            exact lit_ret _ i 4 _ _ _ (by omega) (by omega)
          · have hb : ((strOfNums ((zs.drop i).take 4)).toList == [110, 117, 108, 108]) = false := str_no HI.out hh 4 rfl _ rfl nul_in
            generalize strOfNums ((zs.drop i).take 4) = s at cv hb
            have HH : Hid (¬ HasAt zs i nul) := hh
            clear hh
            go_wp2
            go_roundw
            case rel => exact ⟨3, by omega, by go_num, hBr, g1, g2, g3, fun _ => HN.out.1 (by omega), fun _ => HN.out.2.1 (by omega), fun _ => HH.out⟩
            case measure => simp [intOf]
        · have d1 : decide ((4 : Int) ≤ (len : Int) - i) = false := decide_eq_false (by omega)
          have HH : Hid (¬ HasAt zs i nul) := not_fits (n := 4) HZ.out rfl (by omega) hf
          go_wp2
          go_roundw
          case rel => exact ⟨3, by omega, by go_num, hBr, g1, g2, g3, fun _ => HN.out.1 (by omega), fun _ => HN.out.2.1 (by omega), fun _ => HH.out⟩
          case measure => simp [intOf]
      · go_wp2
        go_ret2
        refine ⟨hBr, .inr ⟨?_, rfl⟩⟩
        rintro m (⟨h, _⟩ | ⟨_, h, _⟩ | ⟨_, _, h, _⟩)
        · exact HN.out.1 (by omega) h
        · exact HN.out.2.1 (by omega) h
        · exact HN.out.2.2 (by omega) h
  · have e3 : decide (49 ≤ c) = true := decide_eq_true g
    have e4 : decide (c ≤ 57) = false := decide_eq_false g'
    go_enter Try.func18, Try.ntmps18
    go_wp2
    go_loopw [19] (fun k' wr => ∃ k : Nat, k ≤ 3 ∧ k' = .int .i64 k ∧ Below w.heap.size w wr ∧ wr.cell? ⟨w.heap.size, 0, none⟩ = some (.string ⟨#[116, 114, 117, 101]⟩) ∧ wr.cell? ⟨w.heap.size, 1, none⟩ = some (.string ⟨#[102, 97, 108, 115, 101]⟩) ∧ wr.cell? ⟨w.heap.size, 2, none⟩ = some (.string ⟨#[110, 117, 108, 108]⟩) ∧ Hid ((1 ≤ k → ¬ HasAt zs i tru) ∧ (2 ≤ k → ¬ HasAt zs i fal) ∧ (3 ≤ k → ¬ HasAt zs i nul))) (fun k' _ => 3 - (intOf k').toNat)
    case atStart => exact ⟨0, by omega, rfl, (Below.refl _ _).alloc (Nat.le_refl _) _, by simp, by simp, by simp, fun h => by omega, fun h => by omega, fun h => by omega⟩
    case round =>
      obtain ⟨k, hk, rfl, hBr, g1, g2, g3, HN⟩ := hrel
      have HBr : Hid (Bytes wr b off zs) := HC.out.later hBr hB
      have hk' : k = 0 ∨ k = 1 ∨ k = 2 ∨ k = 3 := by omega
      rcases hk' with rfl | rfl | rfl | rfl
      · by_cases hf : i + 4 ≤ len
        · have cv := fun c => conv_seg HBr.out i 4 c (by rw [HZ.out]; exact hf)
          have d1 : decide ((4 : Int) ≤ (len : Int) - i) = true := decide_eq_true (by omega)
          by_cases hh : HasAt zs i tru
          · have hb : ((strOfNums ((zs.drop i).take 4)).toList == [116, 114, 117, 101]) = true := str_yes hh 4 rfl _ rfl
            generalize strOfNums ((zs.drop i).take 4) = s at cv hb
            have HH : Hid (HasAt zs i tru) := hh
            clear hh
            go_wp2
            go_ret2
            refine ⟨hBr, .inl ⟨i + 4, .inl ⟨HH.out, rfl⟩, ?_⟩⟩
            exact lit_ret _ i 4 _ _ _ (by omega) (by omega)
          · have hb : ((strOfNums ((zs.drop i).take 4)).toList == [116, 114, 117, 101]) = false := str_no HI.out hh 4 rfl _ rfl tru_in
            generalize strOfNums ((zs.drop i).take 4) = s at cv hb
            have HH : Hid (¬ HasAt zs i tru) := hh
            clear hh
            go_wp2
            go_roundw
            case rel => exact ⟨1, by omega, by go_num, hBr, g1, g2, g3, fun _ => HH.out, fun h => by omega, fun h => by omega⟩
            case measure => simp [intOf]
        · have d1 : decide ((4 : Int) ≤ (len : Int) - i) = false := decide_eq_false (by omega)
          have HH : Hid (¬ HasAt zs i tru) := not_fits (n := 4) HZ.out rfl (by omega) hf
          go_wp2
          go_roundw
          case rel => exact ⟨1, by omega, by go_num, hBr, g1, g2, g3, fun _ => HH.out, fun h => by omega, fun h => by omega⟩
          case measure => simp [intOf]
      · by_cases hf : i + 5 ≤ len
        · have cv := fun c => conv_seg HBr.out i 5 c (by rw [HZ.out]; exact hf)
          have d1 : decide ((5 : Int) ≤ (len : Int) - i) = true := decide_eq_true (by omega)
          by_cases hh : HasAt zs i fal
          · have hb : ((strOfNums ((zs.drop i).take 5)).toList == [102, 97, 108, 115, 101]) = true := str_yes hh 5 rfl _ rfl
            generalize strOfNums ((zs.drop i).take 5) = s at cv hb
            have HH : Hid (HasAt zs i fal) := hh
            clear hh
            go_wp2
            go_ret2
            refine ⟨hBr, .inl ⟨i + 5, .inr (.inl ⟨HN.out.1 (by omega), HH.out, rfl⟩), ?_⟩⟩
            exact lit_ret _ i 5 _ _ _ (by omega) (by omega)
          · have hb : ((strOfNums ((zs.drop i).take 5)).toList == [102, 97, 108, 115, 101]) = false := str_no HI.out hh 5 rfl _ rfl fal_in
            generalize strOfNums ((zs.drop i).take 5) = s at cv hb
            have HH : Hid (¬ HasAt zs i fal) := hh
            clear hh
            go_wp2
            go_roundw
            case rel => exact ⟨2, by omega, by go_num, hBr, g1, g2, g3, fun _ => HN.out.1 (by omega), fun _ => HH.out, fun h => by omega⟩
            case measure => simp [intOf]
        · have d1 : decide ((5 : Int) ≤ (len : Int) - i) = false := decide_eq_false (by omega)
          have HH : Hid (¬ HasAt zs i fal) := not_fits (n := 5) HZ.out rfl (by omega) hf
          go_wp2
          go_roundw
          case rel => exact ⟨2, by omega, by go_num, hBr, g1, g2, g3, fun _ => HN.out.1 (by omega), fun _ => HH.out, fun h => by omega⟩
          case measure => simp [intOf]
      · by_cases hf : i + 4 ≤ len
        · have cv := fun c => conv_seg HBr.out i 4 c (by rw [HZ.out]; exact hf)
          have d1 : decide ((4 : Int) ≤ (len : Int) - i) = true := decide_eq_true (by omega)
          by_cases hh : HasAt zs i nul
          · have hb : ((strOfNums ((zs.drop i).take 4)).toList == [110, 117, 108, 108]) = true := str_yes hh 4 rfl _ rfl
            generalize strOfNums ((zs.drop i).take 4) = s at cv hb
            have HH : Hid (HasAt zs i nul) := hh
            clear hh
            go_wp2
            go_ret2
            refine ⟨hBr, .inl ⟨i + 4, .inr (.inr ⟨HN.out.1 (by omega), HN.out.2.1 (by omega), HH.out, rfl⟩), ?_⟩⟩
            exact lit_ret _ i 4 _ _ _ (by omega) (by omega)
          · have hb : ((strOfNums ((zs.drop i).take 4)).toList == [110, 117, 108, 108]) = false := str_no HI.out hh 4 rfl _ rfl nul_in
            generalize strOfNums ((zs.drop i).take 4) = s at cv hb
            have HH : Hid (¬ HasAt zs i nul) := hh
            clear hh
            go_wp2
            go_roundw
            case rel => exact ⟨3, by omega, by go_num, hBr, g1, g2, g3, fun _ => HN.out.1 (by omega), fun _ => HN.out.2.1 (by omega), fun _ => HH.out⟩
            case measure => simp [intOf]
        · have d1 : decide ((4 : Int) ≤ (len : Int) - i) = false := decide_eq_false (by omega)
          have HH : Hid (¬ HasAt zs i nul) := not_fits (n := 4) HZ.out rfl (by omega) hf
          go_wp2
          go_roundw
          case rel => exact ⟨3, by omega, by go_num, hBr, g1, g2, g3, fun _ => HN.out.1 (by omega), fun _ => HN.out.2.1 (by omega), fun _ => HH.out⟩
          case measure => simp [intOf]
      · go_wp2
        go_ret2
        refine ⟨hBr, .inr ⟨?_, rfl⟩⟩
        rintro m (⟨h, _⟩ | ⟨_, h, _⟩ | ⟨_, _, h, _⟩)
        · exact HN.out.1 (by omega) h
        · exact HN.out.2.1 (by omega) h
        · exact HN.out.2.2 (by omega) h
end Go.Proofs.Qxb6000100a
