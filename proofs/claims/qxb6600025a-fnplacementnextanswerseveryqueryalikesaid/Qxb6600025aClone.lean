import Derived.Test.Qxb6600025aBase
namespace Go.Proofs.Qxb6600025a
set_option linter.unusedVariables false
set_option linter.unusedSimpArgs false
open Go.RowKit

set_option maxHeartbeats 400000 in
theorem clone_nil (w : World) :
    Calls Try.prog 26 #[.slice none 0 0] w fun e w' => e = .returned (.slice none 0 0) ∧ w = w' := by
  have q24 : ∀ (w : World) (a : Option Addr) (n c n' c' : Nat), (binOp .eql 24 (.slice a n c) (.slice none n' c')).run Try.prog w = .ok (.bool a.isNone) w := fun w a n c n' c' => Lib.run_eql_slice_nil w _ _ a n c n' c' Try.underlying24
  go_enter Try.func26, Try.ntmps26
  go_wp2
  go_ret
  exact ⟨rfl, rfl⟩

set_option maxHeartbeats 400000 in
theorem clone_some (x : Addr) (n c : Nat) (ss : List ByteArray) (w : World) (hn : n ≤ 1048576) (h : RdS w (some x) n ss) :
    Calls Try.prog 26 #[.slice (some x) n c] w fun e w' => ∃ g c', e = .returned (.slice (some ⟨g, 0, none⟩) n c') ∧ n ≤ c' ∧ w.heap.size ≤ g ∧ RdS w' (some ⟨g, 0, none⟩) n ss ∧ Below w.heap.size w w' := by
  have q24 : ∀ (w : World) (a : Option Addr) (n c n' c' : Nat), (binOp .eql 24 (.slice a n c) (.slice none n' c')).run Try.prog w = .ok (.bool a.isNone) w := fun w a n c n' c' => Lib.run_eql_slice_nil w _ _ a n c n' c' Try.underlying24
  obtain ⟨i9, h1, h2, h3, h4⟩ := info_parts Try.info9
  go_enter Try.func26, Try.ntmps26
  have hown : (w.alloc (.cells #[] 9)).ownsRow w.heap.size 9 1 (.slice (some ⟨w.heap.size, 0, none⟩) 0 0) 0 [] := World.ownsRow_lit (base := w.heap.size) (e := 9) (size := 1) w #[] 0 (Nat.le_refl _) (by unfold maxLen; omega) rfl
  have hB0 : Below w.heap.size w (w.alloc (.cells #[] 9)) := (Below.refl _ _).alloc (Nat.le_refl _) _
  have h' := h.later hB0
  have hlen := h.1
  go_wp2_with (first | (at_builtin; refine wpList_append_own _ rfl _ _ 24 rfl w.heap.size 9 i9 _ 1 16 Try.underlying24 h1 h2 h3 h4 rfl (by omega) _ 0 [] rfl hown x n c (ss.map Value.string) rfl (by simp [hlen]) h'.news (strings_oneCell ss) (by unfold maxLen; omega) (by omega) hB0.size ?_))
  intro v' w1 hown1 hgrow hnil
  have hne : v' ≠ .slice none 0 0 := hnil
  obtain ⟨g, c', rfl, hc', hg⟩ := owned_form hown1 hne
  have hB1 : Below w.heap.size w w1 := hB0.grown hgrow hB0.size (by simp [Value.ownBlock])
  have hR := RdS_of_owned hown1
  clear hown1 hgrow hnil hne hown h' h hlen
  go_wp2
  go_ret
  exact ⟨g, c', rfl, hc', hg, hR, hB1⟩

/-- slices.Clone: the same strings; nil stays nil, and nothing else becomes nil. -/
theorem clone_any (a : Option Addr) (n c : Nat) (ss : List ByteArray) (w : World) (hn : n ≤ 1048576) (hnc : n ≤ c) (hnil : a = none → c = 0) (h : RdS w a n ss) :
    Calls Try.prog 26 #[.slice a n c] w fun e w' => ∃ a' c', e = .returned (.slice a' n c') ∧ n ≤ c' ∧ (a' = none → c' = 0) ∧ (a' = none ↔ a = none) ∧ (∀ x, a' = some x → w.heap.size ≤ x.block) ∧ RdS w' a' n ss ∧ Below w.heap.size w w' := by
  cases a with
  | none =>
    obtain rfl : c = 0 := hnil rfl
    obtain rfl : n = 0 := by omega
    refine (clone_nil w).mono ?_
    rintro e w' ⟨rfl, rfl⟩
    exact ⟨none, 0, rfl, Nat.le_refl _, fun _ => rfl, Iff.rfl, fun x e => (by cases e), h, Below.refl _ _⟩
  | some x =>
    refine (clone_some x n c ss w hn h).mono ?_
    rintro e w' ⟨g, c', rfl, h1, h0, h2, h3⟩
    exact ⟨_, c', rfl, h1, fun e => (by cases e), by simp, fun x e => (by simp only [Option.some.injEq] at e; subst e; exact h0), h2, h3⟩

/-! ### zzCopyText -/
set_option maxHeartbeats 400000 in
theorem copy_nil (w : World) :
    Calls Try.prog 11 #[.slice none 0 0] w fun e w' => e = .returned (.slice none 0 0) ∧ w = w' := by
  have q24 : ∀ (w : World) (a : Option Addr) (n c n' c' : Nat), (binOp .eql 24 (.slice a n c) (.slice none n' c')).run Try.prog w = .ok (.bool a.isNone) w := fun w a n c n' c' => Lib.run_eql_slice_nil w _ _ a n c n' c' Try.underlying24
  go_enter Try.func11, Try.ntmps11
  go_wp2
  go_ret
  exact ⟨rfl, rfl⟩

theorem filledV_strings (ss : List ByteArray) (n : Nat) (h : ss.length = n) : filledV (fun j => .string (ss.getD j ByteArray.empty)) (.string ⟨#[]⟩) n n = ss.map Value.string := by
  subst h
  apply List.ext_getElem (by simp [filledV])
  intro i h1 h2
  have h3 : i < ss.length := by simpa using h2
  simp [filledV, h3]

set_option maxHeartbeats 400000 in
theorem copy_some (x : Addr) (n c : Nat) (ss : List ByteArray) (w : World) (hn : n ≤ 1048576) (h : RdS w (some x) n ss) :
    Calls Try.prog 11 #[.slice (some x) n c] w fun e w' => ∃ g, e = .returned (.slice (some ⟨g, 0, none⟩) n n) ∧ w.heap.size ≤ g ∧ RdS w' (some ⟨g, 0, none⟩) n ss ∧ Below w.heap.size w w' := by
  have q24 : ∀ (w : World) (a : Option Addr) (n c n' c' : Nat), (binOp .eql 24 (.slice a n c) (.slice none n' c')).run Try.prog w = .ok (.bool a.isNone) w := fun w a n c n' c' => Lib.run_eql_slice_nil w _ _ a n c n' c' Try.underlying24
  obtain ⟨i9, h1, h2, h3, h4⟩ := info_parts Try.info9
  have HR : Hid (RdS w (some x) n ss) := h
  clear h
  go_enter Try.func11, Try.ntmps11
  go_wp2_with (first | (at_make; refine wpList_make_full _ rfl _ _ 24 rfl w.heap.size 9 i9 _ 1 Try.underlying24 h1 h2 h3 _ _ _ _ n rfl rfl rfl rfl (by rw [h4]; omega) (by unfold maxLen; omega) (Nat.le_refl _) ?_))
  intro w1 hown hgrow
  have hB := (Below.refl w.heap.size w).grown hgrow (Nat.le_refl _) (by simp)
  rw [show (madeCells #[Value.string { data := #[] }] n).toList = filledV (fun j => .string (ss.getD j ByteArray.empty)) (.string ⟨#[]⟩) n 0 by rw [filledV_zero]; exact made_strings n] at hown
  clear hgrow
  go_wp2
  go_loopw [4] (fun i wr => ∃ k : Nat, k ≤ n ∧ i = .int .i64 k ∧ wr.ownsRow w.heap.size 9 1 (.slice (some ⟨w.heap.size, 0, none⟩) n n) n (filledV (fun j => .string (ss.getD j ByteArray.empty)) (.string ⟨#[]⟩) n k) ∧ Below w.heap.size w wr) (fun i _ => n - (intOf i).toNat)
  case atStart => exact ⟨0, Nat.zero_le _, rfl, hown, hB⟩
  case round =>
    obtain ⟨k, hk, rfl, ho, hBr⟩ := hrel
    by_cases hlt : k < n
    · obtain ⟨b, off, e, hc⟩ := HR.out.2 (by omega)
      simp only [Option.some.injEq] at e
      subst e
      have g1 : wr.cell? ⟨b, off + k, none⟩ = some (.string (ss.getD k ByteArray.empty)) := cell_later hBr (hc k hlt)
      have HF := filledV_set (fun j => Value.string (ss.getD j ByteArray.empty)) (.string ⟨#[]⟩) n k
      generalize ss.getD k ByteArray.empty = s at g1 HF
      have g2 := ho.frozenAt k
      have g3 := ho.cellAt k (by omega)
      obtain ⟨v3, hv3⟩ : ∃ v, (filledV (fun j => Value.string (ss.getD j ByteArray.empty)) (.string ⟨#[]⟩) n k)[k]? = some v := ⟨_, List.getElem?_eq_getElem (by rw [filledV_length]; omega)⟩
      rw [hv3] at g3
      have HS : Hid (World.ownsRow (wr.setCell ⟨w.heap.size, k, none⟩ (.string s)) w.heap.size 9 1 (.slice (some ⟨w.heap.size, 0, none⟩) n n) n (filledV (fun j => .string (ss.getD j ByteArray.empty)) (.string ⟨#[]⟩) n (k + 1))) := by
        have := (ho.stored k (.string s)).1
        rw [HF] at this
        exact this
      clear hv3 ho hc HF
      go_wp2
      go_roundw
      case rel => exact ⟨k + 1, by omega, by go_num, HS.out, hBr.setCell (Nat.le_refl _) _⟩
      case measure => simp [intOf]; omega
    · go_wp2
      go_ret
      obtain rfl : k = n := by omega
      rw [filledV_strings ss k HR.out.1] at ho
      exact ⟨_, rfl, Nat.le_refl _, RdS_of_owned ho, hBr⟩

/-- zzCopyText: the same strings; nil stays nil, and nothing else becomes nil. -/
theorem copy_any (a : Option Addr) (n c : Nat) (ss : List ByteArray) (w : World) (hn : n ≤ 1048576) (hnc : n ≤ c) (hnil : a = none → c = 0) (h : RdS w a n ss) :
    Calls Try.prog 11 #[.slice a n c] w fun e w' => ∃ a' c', e = .returned (.slice a' n c') ∧ n ≤ c' ∧ (a' = none → c' = 0) ∧ (a' = none ↔ a = none) ∧ RdS w' a' n ss ∧ Below w.heap.size w w' := by
  cases a with
  | none =>
    obtain rfl : c = 0 := hnil rfl
    obtain rfl : n = 0 := by omega
    refine (copy_nil w).mono ?_
    rintro e w' ⟨rfl, rfl⟩
    exact ⟨none, 0, rfl, Nat.le_refl _, fun _ => rfl, Iff.rfl, h, Below.refl _ _⟩
  | some x =>
    refine (copy_some x n c ss w hn h).mono ?_
    rintro e w' ⟨g, rfl, _, h1, h2⟩
    exact ⟨_, n, rfl, Nat.le_refl _, fun e => (by cases e), by simp, h1, h2⟩

/-- The same, and where the copy lies. -/
theorem copy_fresh (a : Option Addr) (n c : Nat) (ss : List ByteArray) (w : World) (hn : n ≤ 1048576) (hnc : n ≤ c) (hnil : a = none → c = 0) (h : RdS w a n ss) :
    Calls Try.prog 11 #[.slice a n c] w fun e w' => ∃ a' c', e = .returned (.slice a' n c') ∧ n ≤ c' ∧ (a' = none → c' = 0) ∧ (∀ x, a' = some x → w.heap.size ≤ x.block) ∧ RdS w' a' n ss ∧ Below w.heap.size w w' := by
  cases a with
  | none =>
    obtain rfl : c = 0 := hnil rfl
    obtain rfl : n = 0 := by omega
    refine (copy_nil w).mono ?_
    rintro e w' ⟨rfl, rfl⟩
    exact ⟨none, 0, rfl, Nat.le_refl _, fun _ => rfl, fun x e => (by cases e), h, Below.refl _ _⟩
  | some x =>
    refine (copy_some x n c ss w hn h).mono ?_
    rintro e w' ⟨g, rfl, h0, h1, h2⟩
    exact ⟨_, n, rfl, Nat.le_refl _, fun e => (by cases e), fun x e => (by simp only [Option.some.injEq] at e; subst e; exact h0), h1, h2⟩
end Go.Proofs.Qxb6600025a
