import Derived.Test.Qxb6600025aBase
import Derived.Test.Qxb6600025aDec
namespace Go.Proofs.Qxb6600025a
set_option linter.unusedVariables false
set_option linter.unusedSimpArgs false
open Go.RowKit

theorem Try.info5 : (Try.prog.info? 5).map (fun i => (i.zero, i.size, i.bytes)) = some (some (.int .u8 0), 1, 1) := by kernel_rfl

theorem slice_buf (b k : Nat) (hk : k < 24) (W : World) :
    (Instr.sliceAt 53 (.pointer (some ⟨b, 0, none⟩)) (some (.int .i64 (k : Int))) none none).run Try.prog W = .ok (.slice (some ⟨b, k, none⟩) (24 - k) (24 - k)) W := by
  obtain ⟨i5, h1, h2, h3, h4⟩ := info_parts Try.info5
  have hb := run_sliceBound (P := Try.prog) W .i64 (k : Int) 24 .sliceB (by omega) (by omega)
  simp [Instr.sliceAt, Instr.sureAddr, run_underlying Try.underlying53, Instr.sliceBounds, hb, sizeOf, typeInfo, h1, h3, show ¬ 24 = k by omega, Addr.add_lit]

/-- The buffer's cells. -/
def Buf (w : World) (b k : Nat) (acc : List Int) : Prop :=
  acc.length + k = 24 ∧ (∀ j, j < 24 → ∃ v, w.cell? ⟨b, j, none⟩ = some v) ∧ (∀ j, w.frozen? ⟨b, j, none⟩ = false) ∧ ∀ t, t < acc.length → w.cell? ⟨b, k + t, none⟩ = some (.int .u8 (acc.getD t 0))

theorem Buf.step {w : World} {b k : Nat} {acc : List Int} (h : Buf w b (k + 1) acc) (c : Int) : Buf (w.setCell ⟨b, k, none⟩ (.int .u8 c)) b k (c :: acc) := by
  obtain ⟨h1, h2, h3, h4⟩ := h
  obtain ⟨v0, hv0⟩ := h2 k (by omega)
  have hw : (w.setCell ⟨b, k, none⟩ (.int .u8 c)).cell? ⟨b, k, none⟩ = some (.int .u8 c) := by
    exact World.cell?_setCell_same _ _ _ hv0
  have ho : ∀ j, j ≠ k → (w.setCell ⟨b, k, none⟩ (.int .u8 c)).cell? ⟨b, j, none⟩ = w.cell? ⟨b, j, none⟩ := by
    intro j hj
    exact World.cell?_setCell_other _ _ _ _ (by simp only [ne_eq, Addr.mk.injEq, true_and, and_true]; omega)
  refine ⟨by simp only [List.length_cons]; omega, ?_, ?_, ?_⟩
  · intro j hj
    by_cases e : j = k
    · subst e; exact ⟨_, hw⟩
    · rw [ho j e]; exact h2 j hj
  · intro j; rw [World.frozen?_setCell]; exact h3 j
  · intro t ht
    match t with
    | 0 => rw [Nat.add_zero, hw]; simp
    | t + 1 =>
      rw [ho (k + (t + 1)) (by omega)]
      have := h4 t (by simpa using ht)
      rw [show k + (t + 1) = k + 1 + t by omega, this]
      simp

set_option maxHeartbeats 400000 in
theorem itoa_pos (n : Nat) (w : World) (h0 : 0 < n) (hn : n ≤ 65536)  :
    Calls Try.prog 28 #[.int .i64 n] w fun e w' => e = .returned (.string (strOfNums (dec n))) ∧ Below w.heap.size w w' := by
  go_enter Try.func28, Try.ntmps28
  go_wp2
  go_loopw [0, 4] (fun i' k' wr => ∃ (i k : Nat) (acc : List Int), i' = .int .i64 i ∧ k' = .int .i64 k ∧ i ≤ 65536 ∧ Hid (i < 10 ^ k) ∧ Hid (decF k i acc = decF 24 n []) ∧ Hid (IsDigits acc) ∧ Buf wr w.heap.size k acc ∧ Below w.heap.size w wr) (fun i' _ _ => (intOf i').toNat)
  case atStart =>
    refine ⟨n, 24, [], rfl, rfl, hn, ?_, rfl, ?_, ⟨rfl, ?_, ?_, ?_⟩, (Below.refl _ _).alloc (Nat.le_refl _) _⟩
    · show n < 10 ^ 24
      omega
    · intro c hc; simp at hc
    · intro j hj
      rw [World.cell?_alloc_new]
      exact ⟨_, Array.getElem?_eq_getElem (by simpa using hj)⟩
    · intro j
      exact World.frozen?_alloc_new _ _ _ _
    · intro t ht; simp at ht
  case round =>
    obtain ⟨i, k, acc, rfl, rfl, h1, HP, HD, HI, hBf, hB⟩ := hrel
    by_cases hi : 0 < i
    · obtain ⟨k, rfl⟩ : ∃ q, k = q + 1 := by
        match k, HP with
        | 0, HP => exact absurd HP.out (by simp; omega)
        | q + 1, _ => exact ⟨q, rfl⟩
      obtain ⟨v, hv⟩ := hBf.2.1 k (by have := hBf.1; omega)
      have hf := hBf.2.2.1 k
      have hk24 : k < 24 := by have := hBf.1; omega
      have HB : Hid (Buf (wr.setCell ⟨w.heap.size, k, none⟩ (.int .u8 (48 + (i : Int) % 10))) w.heap.size k ((48 + (i : Int) % 10) :: acc)) := hBf.step _
      have HI2 : Hid (IsDigits ((48 + (i : Int) % 10) :: acc)) := by
        intro c hc
        rcases List.mem_cons.1 hc with rfl | hc
        · omega
        · exact HI.out c hc
      have HD2 : Hid (decF k (i / 10) ((48 + (i : Int) % 10) :: acc) = decF 24 n []) := by
        have := HD.out
        rw [decF, if_neg (by omega)] at this
        exact this
      have HP2 : Hid (i / 10 < 10 ^ k) := by
        have := HP.out
        rw [Nat.pow_succ] at this
        show i / 10 < 10 ^ k
        omega
      clear hBf
      go_wp2
      go_roundw
      case rel => exact ⟨i / 10, k, _, by go_num, rfl, by omega, HP2, HD2, HI2, HB.out, hB.setCell (Nat.le_refl _) _⟩
      case measure => simp [intOf]; omega
    · obtain rfl : i = 0 := by omega
      have hacc : acc = dec n := by
        have := HD.out
        rw [decF_zero] at this
        rw [this, dec, if_neg (by omega)]
      have hkk : k < 24 := by
        have h1 := (dec_digits n (by omega)).pos
        have := hBf.1
        rw [hacc] at this
        omega
      have hsl := slice_buf w.heap.size k hkk
      have hcv : ∀ c, (convert 54 9 (.slice (some ⟨w.heap.size, k, none⟩) (24 - k) c)).run Try.prog wr = .ok (.string (strOfNums acc)) wr := fun c =>
        run_convert_bytes_arg wr 54 5 Try.underlying54 Try.underlying5 w.heap.size k (24 - k) c acc (by have := hBf.1; omega) (fun j hj => hBf.2.2.2 j (by have := hBf.1; omega)) 9 Try.underlying9
      rw [hacc] at hcv
      generalize hs : strOfNums (dec n) = s at hcv
      have HS : Hid (strOfNums (dec n) = s) := hs
      clear hBf hacc hs
      go_wp2
      go_ret
      exact ⟨by rw [HS.out]; rfl, hB⟩

set_option maxHeartbeats 400000 in
theorem itoa_zero (w : World) :
    Calls Try.prog 28 #[.int .i64 0] w fun e w' => e = .returned (.string (strOfNums (dec 0))) ∧ Below w.heap.size w w' := by
  have e : strOfNums (dec 0) = ⟨#[48]⟩ := rfl
  rw [e]
  go_enter Try.func28, Try.ntmps28
  go_wp2
  go_ret
  exact ⟨rfl, Below.refl _ _⟩

/-- The name of node n. -/
def nodeName (n : Nat) : ByteArray := (⟨#[110]⟩ : ByteArray) ++ strOfNums (dec n)

theorem itoa_any (n : Nat) (w : World) (hn : n ≤ 65536) :
    Calls Try.prog 28 #[.int .i64 n] w fun e w' => e = .returned (.string (strOfNums (dec n))) ∧ Below w.heap.size w w' := by
  by_cases h0 : 0 < n
  · exact itoa_pos n w h0 hn
  · obtain rfl : n = 0 := by omega
    exact itoa_zero w

set_option maxHeartbeats 400000 in
theorem name_any (n : Nat) (w : World) (hn : n ≤ 65536) :
    Calls Try.prog 23 #[.int .i64 n] w fun e w' => e = .returned (.string (nodeName n)) ∧ Below w.heap.size w w' := by
  have hP := itoa_any n w hn
  have e : nodeName n = (⟨#[110]⟩ : ByteArray) ++ strOfNums (dec n) := rfl
  rw [e]
  have hsz : (strOfNums (dec n)).size ≤ 24 := by rw [strOfNums_size]; exact (dec_digits n (by omega)).short
  generalize strOfNums (dec n) = s at hP hsz
  go_enter Try.func23, Try.ntmps23
  go_wp2_with fail
  refine hP.mono ?_
  clear hP
  rintro e w1 ⟨rfl, hB⟩
  go_wp2
  go_ret
  exact ⟨rfl, hB⟩

/-- s is the letter n and the digits l. -/
def Named (s : ByteArray) (l : List Int) : Prop := s.size = l.length + 1 ∧ (∀ h : 0 < s.size, ((s[0]'h).toNat : Int) = 110) ∧ ∀ k, k < l.length → ∀ h : k + 1 < s.size, ((s[k + 1]'h).toNat : Int) = l.getD k 0

theorem named_list (l : List Int) (hd : IsDigits l) : Named ⟨((110 : UInt8) :: l.map fun n => UInt8.ofNat n.toNat).toArray⟩ l := by
  refine ⟨by simp [ByteArray.size], fun h => rfl, ?_⟩
  intro k hk h
  have e : (ByteArray.mk ((110 : UInt8) :: l.map fun n => UInt8.ofNat n.toNat).toArray)[k + 1]'h = UInt8.ofNat (l.getD k 0).toNat := by
    show ((110 : UInt8) :: l.map fun n => UInt8.ofNat n.toNat).toArray[k + 1] = _
    simp [List.getD, hk]
  rw [e]
  have hb := hd (l.getD k 0) (by simp [List.getD, hk])
  simp only [UInt8.toNat_ofNat']
  omega

theorem nodeName_eq (n : Nat) : nodeName n = ⟨((110 : UInt8) :: (dec n).map fun n => UInt8.ofNat n.toNat).toArray⟩ := by
  apply ByteArray.ext
  unfold nodeName strOfNums
  simp [ByteArray.data_append]

theorem named (n : Nat) (hn : n ≤ 65536) : Named (nodeName n) (dec n) := by
  rw [nodeName_eq]
  exact named_list _ (dec_digits n (by omega)).digits
end Go.Proofs.Qxb6600025a
