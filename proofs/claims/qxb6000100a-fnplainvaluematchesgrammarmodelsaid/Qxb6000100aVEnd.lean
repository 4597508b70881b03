import Derived.Test.Qxb6000100aHas
import Derived.Test.Qxb6000100aPEnd
namespace Go.Proofs.Qxb6000100a
set_option linter.unusedVariables false
set_option linter.unusedSimpArgs false
open Go.RowKit

set_option maxHeartbeats 400000 in
theorem ve_past (a : Option Addr) (len cap i : Nat) (w : World) (h : len ≤ i) (hi : i ≤ 1048576) :
    Calls Try.prog 15 #[.slice a len cap, .int .i64 i] w fun e w' => e = .returned (.int .i64 (-1)) ∧ Below w.heap.size w w' := by
  have d1 : decide ((i : Int) < 0) = false := decide_eq_false (by omega)
  have d2 : decide ((len : Int) ≤ i) = true := decide_eq_true (by omega)
  go_enter Try.func15, Try.ntmps15
  go_wp2
  go_ret
  exact ⟨rfl, Below.refl _ _⟩

set_option maxHeartbeats 400000 in
theorem ve_str (b off len cap i : Nat) (r : Int) (w : World) (hi : i < len) (hl : len ≤ 1048576) (c0 : w.cell? ⟨b, off + i, none⟩ = some (.int .u8 34))
    (hP : Calls Try.prog 10 #[.slice (some ⟨b, off, none⟩) len cap, .int .i64 i] w fun e w' => e = .returned (.int .i64 r) ∧ w = w') :
    Calls Try.prog 15 #[.slice (some ⟨b, off, none⟩) len cap, .int .i64 i] w fun e w' => e = .returned (.int .i64 r) ∧ Below w.heap.size w w' := by
  have d1 : decide ((i : Int) < 0) = false := decide_eq_false (by omega)
  have d2 : decide ((len : Int) ≤ i) = false := decide_eq_false (by omega)
  have n2 : (i : Int) < len := by omega
  have HP : Hid (Calls Try.prog 10 #[.slice (some ⟨b, off, none⟩) len cap, .int .i64 i] w fun e w' => e = .returned (.int .i64 r) ∧ w = w') := hP
  clear hP
  go_enter Try.func15, Try.ntmps15
  go_wp2_with fail
  refine HP.out.mono ?_
  rintro e w' ⟨rfl, rfl⟩
  go_wp2
  go_ret
  exact ⟨rfl, Below.refl _ _⟩

def numEnd (c : Int) (i m : Nat) : Int := if c = 48 then (i : Int) + 1 else (m : Int)

theorem num_ret {a b : Int} (h : a = b) : Ending.returned (.int .i64 a) = Ending.returned (.int .i64 b) := by rw [h]

set_option maxHeartbeats 800000 in
theorem ve_num (b off len cap i m : Nat) (zs : List Int) (w : World) (hz : zs.length = len) (hl : len ≤ 1048576) (hc : Bytes w b off zs) (hd : Dig (zs.getD i 0)) (h : IsNum zs i m) :
    Calls Try.prog 15 #[.slice (some ⟨b, off, none⟩) len cap, .int .i64 i] w fun e w' => e = .returned (.int .i64 (numEnd (zs.getD i 0) i m)) ∧ Below w.heap.size w w' := by
  obtain ⟨a1, a2, a3, a4⟩ := h
  obtain ⟨n, hn⟩ : ∃ n, n = m - i := ⟨_, rfl⟩
  have b1 : i + n ≤ m := by omega
  have b2 : m ≤ i + n := by omega
  have HA : Hid (∀ t, t < n → Dig (zs.getD (i + t) 0)) := by
    intro t ht
    by_cases h0 : t = 0
    · subst h0; exact hd
    · exact a3 (i + t) (by omega) (by omega)
  have c0 := hc i (by omega)
  have HD : Hid (Dig (zs.getD i 0)) := hd
  have hd1 := hd.1
  have hd2 := hd.2
  have b3 : m ≤ len := by omega
  generalize zs.getD i 0 = c at c0 hd1 hd2 ⊢
  have n1 : (c == 34) = false := beq_eq_false_iff_ne.2 (by omega)
  have d1 : decide ((i : Int) < 0) = false := decide_eq_false (by omega)
  have d2 : decide ((len : Int) ≤ i) = false := decide_eq_false (by omega)
  have n2 : (i : Int) < len := by omega
  have HC : Hid (Bytes w b off zs) := hc
  have HN : Hid (m < zs.length → ¬ Dig (zs.getD m 0)) := a4
  have HZ : Hid (zs.length = len) := hz
  clear hc a3 a4 hd hn hz
  go_enter Try.func15, Try.ntmps15
  go_wp2
  go_loop [6] (fun k' => ∃ k : Nat, k ≤ n ∧ k' = .int .i64 k) (fun k' => n - (intOf k').toNat)
  case atStart => exact ⟨0, Nat.zero_le _, rfl⟩
  case round =>
    obtain ⟨k, hk, rfl⟩ := hrel
    by_cases hlt : k < n
    · have ck := HC.out (i + k) (by rw [HZ.out]; omega)
      obtain ⟨g1, g2⟩ := HA.out k hlt
      generalize zs.getD (i + k) 0 = x at ck g1 g2
      have t1 : decide ((i : Int) + k < len) = true := decide_eq_true (by omega)
      have t2 : decide (48 ≤ x) = true := decide_eq_true g1
      have t3 : decide (x ≤ 57) = true := decide_eq_true g2
      go_wp2
      go_round
      case rel => exact ⟨k + 1, by omega, by go_num⟩
      case measure => simp [intOf]; omega
    · obtain rfl : k = n := by omega
      have hcase : (∃ x, ¬ Dig x ∧ w.cell? ⟨b, off + (i + k), none⟩ = some (.int .u8 x) ∧ i + k < len) ∨ ¬ i + k < len := by
        by_cases hkl : i + k < len
        · exact .inl ⟨_, by have := HN.out (by rw [HZ.out]; omega); rwa [show m = i + k by omega] at this, HC.out (i + k) (by rw [HZ.out]; exact hkl), hkl⟩
        · exact .inr hkl
      by_cases h48 : c = 48
      · have t4 : (c == 48) = true := beq_iff_eq.2 h48
        rcases hcase with ⟨x, hx, ck, hkl⟩ | hkl
        · have t1 : decide ((i : Int) + k < len) = true := decide_eq_true (by omega)
          by_cases x1 : 48 ≤ x
          · have t2 : decide (48 ≤ x) = true := decide_eq_true x1
            have t3 : decide (x ≤ 57) = false := decide_eq_false (fun x2 => hx ⟨x1, x2⟩)
            have HX : Hid (c = 48) := h48
            clear hx h48
            go_wp2
            go_ret
            exact ⟨num_ret (by unfold numEnd; rw [if_pos HX.out]), Below.refl _ _⟩
          · have t2 : decide (48 ≤ x) = false := decide_eq_false x1
            have HX : Hid (c = 48) := h48
            clear hx h48
            go_wp2
            go_ret
            exact ⟨num_ret (by unfold numEnd; rw [if_pos HX.out]), Below.refl _ _⟩
        · have t1 : decide ((i : Int) + k < len) = false := decide_eq_false (by omega)
          have HX : Hid (c = 48) := h48
          clear h48
          go_wp2
          go_ret
          exact ⟨num_ret (by unfold numEnd; rw [if_pos HX.out]), Below.refl _ _⟩
      · have t4 : (c == 48) = false := beq_eq_false_iff_ne.2 h48
        rcases hcase with ⟨x, hx, ck, hkl⟩ | hkl
        · have t1 : decide ((i : Int) + k < len) = true := decide_eq_true (by omega)
          by_cases x1 : 48 ≤ x
          · have t2 : decide (48 ≤ x) = true := decide_eq_true x1
            have t3 : decide (x ≤ 57) = false := decide_eq_false (fun x2 => hx ⟨x1, x2⟩)
            have HX : Hid (¬ c = 48) := h48
            clear hx h48
            go_wp2
            go_ret
            exact ⟨num_ret (by unfold numEnd; rw [if_neg HX.out]; omega), Below.refl _ _⟩
          · have t2 : decide (48 ≤ x) = false := decide_eq_false x1
            have HX : Hid (¬ c = 48) := h48
            clear hx h48
            go_wp2
            go_ret
            exact ⟨num_ret (by unfold numEnd; rw [if_neg HX.out]; omega), Below.refl _ _⟩
        · have t1 : decide ((i : Int) + k < len) = false := decide_eq_false (by omega)
          have HX : Hid (¬ c = 48) := h48
          clear h48
          go_wp2
          go_ret
          exact ⟨num_ret (by unfold numEnd; rw [if_neg HX.out]; omega), Below.refl _ _⟩

theorem spells_tru : Spells ⟨#[116, 114, 117, 101]⟩ tru := ⟨rfl, fun k h => by
  have h4 : k < 4 := h
  match k, h4 with
  | 0, _ => rfl
  | 1, _ => rfl
  | 2, _ => rfl
  | 3, _ => rfl⟩
theorem spells_fal : Spells ⟨#[102, 97, 108, 115, 101]⟩ fal := ⟨rfl, fun k h => by
  have h4 : k < 5 := h
  match k, h4 with
  | 0, _ => rfl
  | 1, _ => rfl
  | 2, _ => rfl
  | 3, _ => rfl
  | 4, _ => rfl⟩
theorem spells_nul : Spells ⟨#[110, 117, 108, 108]⟩ nul := ⟨rfl, fun k h => by
  have h4 : k < 4 := h
  match k, h4 with
  | 0, _ => rfl
  | 1, _ => rfl
  | 2, _ => rfl
  | 3, _ => rfl⟩

theorem has_any (b off len cap i : Nat) (s : ByteArray) (L zs : List Int) (w : World) (hz : zs.length = len) (hi : i ≤ len) (hl : len ≤ 1048576) (hs : s.size ≤ 1000) (h0 : 0 < s.size) (hc : Bytes w b off zs) (hB : b < w.heap.size) (hsp : Spells s L) :
    Calls Try.prog 19 #[.slice (some ⟨b, off, none⟩) len cap, .int .i64 i, .string s] w fun e w' => Below w.heap.size w w' ∧ ((HasAt zs i L ∧ e = .returned (.bool true)) ∨ (¬ HasAt zs i L ∧ e = .returned (.bool false))) := by
  by_cases h : i + s.size ≤ len
  · exact has_walk b off len cap i s L zs w hz hl h hs hc hB hsp
  · refine (has_short _ len cap i s w hi hl h hs).mono ?_
    rintro e w' ⟨rfl, hb⟩
    refine ⟨hb, .inr ⟨fun hh => ?_, rfl⟩⟩
    have := hh.fits
    have := hsp.1
    omega

set_option maxHeartbeats 1600000 in
theorem ve_lit (b off len cap i : Nat) (zs : List Int) (w : World) (hz : zs.length = len) (hi : i < len) (hl : len ≤ 1048576) (hc : Bytes w b off zs) (hB : b < w.heap.size)
    (h1 : zs.getD i 0 ≠ 34) (h2 : ¬ Dig (zs.getD i 0)) :
    Calls Try.prog 15 #[.slice (some ⟨b, off, none⟩) len cap, .int .i64 i] w fun e w' => Below w.heap.size w w' ∧
      ((∃ m : Nat, LitEnd zs i m ∧ e = .returned (.int .i64 (m : Int))) ∨ ((∀ m, ¬ LitEnd zs i m) ∧ e = .returned (.int .i64 (-1)))) := by
  have c0 := hc i (by omega)
  generalize zs.getD i 0 = c at c0 h1 h2
  have n1 : (c == 34) = false := beq_eq_false_iff_ne.2 h1
  have d1 : decide ((i : Int) < 0) = false := decide_eq_false (by omega)
  have d2 : decide ((len : Int) ≤ i) = false := decide_eq_false (by omega)
  have n2 : (i : Int) < len := by omega
  have n3 : decide ((i : Int) < len) = true := decide_eq_true (by omega)
  have h3 : ¬ 48 ≤ c ∨ (48 ≤ c ∧ ¬ c ≤ 57) := by
    by_cases h : 48 ≤ c
    · exact .inr ⟨h, fun h' => h2 ⟨h, h'⟩⟩
    · exact .inl h
  have HC : Hid (Bytes w b off zs) := hc
  have HZ : Hid (zs.length = len) := hz
  clear hc h1 h2 hz
  have hT := has_any b off len cap i _ tru zs w HZ.out (by omega) hl (by decide) (by decide) HC.out hB spells_tru
  have HF : Hid (∀ w', Below w.heap.size w w' → Calls Try.prog 19 #[.slice (some ⟨b, off, none⟩) len cap, .int .i64 i, .string ⟨#[102, 97, 108, 115, 101]⟩] w' fun e w'' => Below w'.heap.size w' w'' ∧ ((HasAt zs i fal ∧ e = .returned (.bool true)) ∨ (¬ HasAt zs i fal ∧ e = .returned (.bool false)))) :=
    fun w' hb => has_any b off len cap i _ fal zs w' HZ.out (by omega) hl (by decide) (by decide) (HC.out.later hb hB) (Nat.lt_of_lt_of_le hB hb.size) spells_fal
  have HU : Hid (∀ w', Below w.heap.size w w' → Calls Try.prog 19 #[.slice (some ⟨b, off, none⟩) len cap, .int .i64 i, .string ⟨#[110, 117, 108, 108]⟩] w' fun e w'' => Below w'.heap.size w' w'' ∧ ((HasAt zs i nul ∧ e = .returned (.bool true)) ∨ (¬ HasAt zs i nul ∧ e = .returned (.bool false)))) :=
    fun w' hb => has_any b off len cap i _ nul zs w' HZ.out (by omega) hl (by decide) (by decide) (HC.out.later hb hB) (Nat.lt_of_lt_of_le hB hb.size) spells_nul
  have HT := hT
  clear hT
  rcases h3 with g | ⟨g, g'⟩
  · have t2 : decide (48 ≤ c) = false := decide_eq_false g
    go_enter Try.func15, Try.ntmps15
    go_wp2
    go_loop [6] (fun k' => k' = .int .i64 0) (fun _ => 0)
    case atStart => exact rfl
    case round =>
      subst hrel
      go_wp2_with fail
      refine HT.mono ?_
      clear HT
      rintro e w2 ⟨hB2, ⟨h, rfl⟩ | ⟨h, rfl⟩⟩
      · have HH : Hid (HasAt zs i tru) := h
        clear h
        go_wp2
        go_ret
        exact ⟨hB2, .inl ⟨i + 4, .inl ⟨HH.out, rfl⟩, num_ret (by omega)⟩⟩
      have HH1 : Hid (¬ HasAt zs i tru) := h
      clear h
      go_wp2_with fail
      refine (HF.out w2 hB2).mono ?_
      rintro e w3 ⟨hB3', ⟨h, rfl⟩ | ⟨h, rfl⟩⟩
      · have hB3 : Below w.heap.size w w3 := hB2.trans (hB3'.mono hB2.size)
        have HH : Hid (HasAt zs i fal) := h
        clear h
        go_wp2
        go_ret
        exact ⟨hB3, .inl ⟨i + 5, .inr (.inl ⟨HH1.out, HH.out, rfl⟩), num_ret (by omega)⟩⟩
      have hB3 : Below w.heap.size w w3 := hB2.trans (hB3'.mono hB2.size)
      have HH2 : Hid (¬ HasAt zs i fal) := h
      clear h
      go_wp2_with fail
      refine (HU.out w3 hB3).mono ?_
      rintro e w4 ⟨hB4', ⟨h, rfl⟩ | ⟨h, rfl⟩⟩
      · have hB4 : Below w.heap.size w w4 := hB3.trans (hB4'.mono hB3.size)
        have HH : Hid (HasAt zs i nul) := h
        clear h
        go_wp2
        go_ret
        exact ⟨hB4, .inl ⟨i + 4, .inr (.inr ⟨HH1.out, HH2.out, HH.out, rfl⟩), num_ret (by omega)⟩⟩
      have hB4 : Below w.heap.size w w4 := hB3.trans (hB4'.mono hB3.size)
      have HH3 : Hid (¬ HasAt zs i nul) := h
      clear h
      go_wp2
      go_ret
      refine ⟨hB4, .inr ⟨?_, rfl⟩⟩
      rintro m (⟨h, _⟩ | ⟨_, h, _⟩ | ⟨_, _, h, _⟩)
      · exact HH1.out h
      · exact HH2.out h
      · exact HH3.out h
  · have t2 : decide (48 ≤ c) = true := decide_eq_true g
    have t3 : decide (c ≤ 57) = false := decide_eq_false g'
    go_enter Try.func15, Try.ntmps15
    go_wp2
    go_loop [6] (fun k' => k' = .int .i64 0) (fun _ => 0)
    case atStart => exact rfl
    case round =>
      subst hrel
      go_wp2_with fail
      refine HT.mono ?_
      clear HT
      rintro e w2 ⟨hB2, ⟨h, rfl⟩ | ⟨h, rfl⟩⟩
      · have HH : Hid (HasAt zs i tru) := h
        clear h
        go_wp2
        go_ret
        exact ⟨hB2, .inl ⟨i + 4, .inl ⟨HH.out, rfl⟩, num_ret (by omega)⟩⟩
      have HH1 : Hid (¬ HasAt zs i tru) := h
      clear h
      go_wp2_with fail
      refine (HF.out w2 hB2).mono ?_
      rintro e w3 ⟨hB3', ⟨h, rfl⟩ | ⟨h, rfl⟩⟩
      · have hB3 : Below w.heap.size w w3 := hB2.trans (hB3'.mono hB2.size)
        have HH : Hid (HasAt zs i fal) := h
        clear h
        go_wp2
        go_ret
        exact ⟨hB3, .inl ⟨i + 5, .inr (.inl ⟨HH1.out, HH.out, rfl⟩), num_ret (by omega)⟩⟩
      have hB3 : Below w.heap.size w w3 := hB2.trans (hB3'.mono hB2.size)
      have HH2 : Hid (¬ HasAt zs i fal) := h
      clear h
      go_wp2_with fail
      refine (HU.out w3 hB3).mono ?_
      rintro e w4 ⟨hB4', ⟨h, rfl⟩ | ⟨h, rfl⟩⟩
      · have hB4 : Below w.heap.size w w4 := hB3.trans (hB4'.mono hB3.size)
        have HH : Hid (HasAt zs i nul) := h
        clear h
        go_wp2
        go_ret
        exact ⟨hB4, .inl ⟨i + 4, .inr (.inr ⟨HH1.out, HH2.out, HH.out, rfl⟩), num_ret (by omega)⟩⟩
      have hB4 : Below w.heap.size w w4 := hB3.trans (hB4'.mono hB3.size)
      have HH3 : Hid (¬ HasAt zs i nul) := h
      clear h
      go_wp2
      go_ret
      refine ⟨hB4, .inr ⟨?_, rfl⟩⟩
      rintro m (⟨h, _⟩ | ⟨_, h, _⟩ | ⟨_, _, h, _⟩)
      · exact HH1.out h
      · exact HH2.out h
      · exact HH3.out h
end Go.Proofs.Qxb6000100a
