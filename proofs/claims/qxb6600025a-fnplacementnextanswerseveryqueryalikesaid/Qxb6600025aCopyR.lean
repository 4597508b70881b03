import Derived.Test.Qxb6600025aGro
namespace Go.Proofs.Qxb6600025a
set_option linter.unusedVariables false
set_option linter.unusedSimpArgs false
open Go.RowKit

/-- A row of n row values (block g) of which the first k are copies. -/
structure Cpy (w wr : World) (g n k : Nat) (rows : List (List ByteArray)) : Prop where
  below : Below g w wr
  own : ∃ xs, wr.ownsRow g 24 1 (.slice (some ⟨g, 0, none⟩) n n) n xs ∧ ∀ j, j < k → ∃ a' n' c', xs[j]? = some (.slice a' n' c') ∧ n' ≤ c' ∧ (a' = none → c' = 0) ∧ RdSq (fun b => b ≠ g) wr a' n' (rows.getD j [])

theorem Cpy.look {w wr : World} {g n k : Nat} {rows : List (List ByteArray)} (h : Cpy w wr g n k rows) (hk : k < n) {w1 : World} (hB : Below wr.heap.size wr w1) : (∃ v, w1.cell? ⟨g, k, none⟩ = some v) ∧ w1.frozen? ⟨g, k, none⟩ = false := by
  obtain ⟨xs, ho, _⟩ := h.own
  have ho1 := owned_later ho hB
  refine ⟨?_, ho1.frozenAt k⟩
  rw [ho1.cellAt k (by omega)]
  exact ⟨_, List.getElem?_eq_getElem (by have := ho.1; omega)⟩

theorem Cpy.step {w wr w1 : World} {g n k : Nat} {rows : List (List ByteArray)} (h : Cpy w wr g n k rows) (hk : k < n) (hB : Below wr.heap.size wr w1) {ra : Option Addr} {rn rc : Nat} (h1 : rn ≤ rc) (h2 : ra = none → rc = 0)
    (hf : ∀ x, ra = some x → wr.heap.size ≤ x.block) (hR : RdS w1 ra rn (rows.getD k [])) : Cpy w (w1.setCell ⟨g, k, none⟩ (.slice ra rn rc)) g n (k + 1) rows := by
  obtain ⟨hb, xs, ho, hr⟩ := h
  have hg := owned_lt ho
  have ho1 := owned_later ho hB
  refine ⟨(hb.trans (hB.mono (by omega))).setCell (Nat.le_refl _) _, _, (ho1.stored k (.slice ra rn rc)).1, fun j hj => ?_⟩
  have hl : xs.length = n := by have := ho.1; omega
  by_cases e : j < k
  · obtain ⟨a', n', c', e1, e2, e3, e4⟩ := hr j e
    refine ⟨a', n', c', by rw [List.getElem?_set_ne (by omega)]; exact e1, e2, e3, e4.kept (fun b hq hbs => ⟨hq, ?_⟩)⟩
    rw [Below.heap_setCell _ _ _ _ hq, hB.block b hbs]
  · obtain rfl : j = k := by omega
    refine ⟨ra, rn, rc, by rw [List.getElem?_set_self (by omega)], h1, h2, hR.1, fun h0 => ?_⟩
    obtain ⟨b, off, e, hc⟩ := hR.2 h0
    have hfb := hf _ e
    simp only at hfb
    refine ⟨b, off, e, by omega, fun t ht => ?_⟩
    rw [World.cell?_of_block (w := w1) (a := ⟨b, off + t, none⟩) (Below.heap_setCell _ _ _ _ (by simp only; omega))]
    exact hc t ht

theorem Cpy.done {w wr : World} {g n : Nat} {rows : List (List ByteArray)} (h : Cpy w wr g n n rows) (hl : rows.length = n) : RdR wr (some ⟨g, 0, none⟩) n rows := by
  obtain ⟨xs, ho, hr⟩ := h.own
  refine ⟨hl, fun h0 => ⟨g, 0, rfl, fun j hj => ?_⟩⟩
  obtain ⟨a', n', c', e1, e2, e3, e4⟩ := hr j hj
  refine ⟨a', n', c', ?_, e2, e3, e4.plain⟩
  rw [Nat.zero_add, ho.cellAt j (by omega)]
  exact e1

set_option maxHeartbeats 400000 in
theorem copyR_nil (w : World) :
    Calls Try.prog 10 #[.slice none 0 0] w fun e w' => e = .returned (.slice none 0 0) ∧ w = w' := by
  have q23 : ∀ (w : World) (a : Option Addr) (n c n' c' : Nat), (binOp .eql 23 (.slice a n c) (.slice none n' c')).run Try.prog w = .ok (.bool a.isNone) w := fun w a n c n' c' => Lib.run_eql_slice_nil w _ _ a n c n' c' Try.underlying23
  go_enter Try.func10, Try.ntmps10
  go_wp2
  go_ret
  exact ⟨rfl, rfl⟩

set_option maxHeartbeats 800000 in
theorem copyR_some (x : Addr) (n c : Nat) (rows : List (List ByteArray)) (w : World) (hn : n ≤ 1048576) (hb : ∀ j, (rows.getD j []).length ≤ 1048576) (h : RdR w (some x) n rows) :
    Calls Try.prog 10 #[.slice (some x) n c] w fun e w' => ∃ g, e = .returned (.slice (some ⟨g, 0, none⟩) n n) ∧ RdR w' (some ⟨g, 0, none⟩) n rows ∧ Below w.heap.size w w' := by
  have q23 : ∀ (w : World) (a : Option Addr) (n c n' c' : Nat), (binOp .eql 23 (.slice a n c) (.slice none n' c')).run Try.prog w = .ok (.bool a.isNone) w := fun w a n c n' c' => Lib.run_eql_slice_nil w _ _ a n c n' c' Try.underlying23
  obtain ⟨i24, h1, h2, h3, h4⟩ := info_parts Try.info24
  have HR : Hid (RdR w (some x) n rows) := h
  have HB : Hid (∀ j, (rows.getD j []).length ≤ 1048576) := hb
  clear h hb
  go_enter Try.func10, Try.ntmps10
  go_wp2_with (first | (at_make; refine wpList_make_full _ rfl _ _ 23 rfl w.heap.size 24 i24 (.slice none 0 0) 1 Try.underlying23 h1 h2 h3 _ _ _ _ n rfl rfl rfl rfl (by rw [h4]; omega) (by unfold maxLen; omega) (Nat.le_refl _) ?_))
  intro w1 hown hgrow
  have hC0 : Cpy w w1 w.heap.size n 0 rows := ⟨(Below.refl _ _).grown hgrow (Nat.le_refl _) (by simp), _, hown, fun j hj => by omega⟩
  obtain ⟨g, hg⟩ : ∃ g, g = w.heap.size := ⟨_, rfl⟩
  rw [← hg] at hC0 ⊢
  have HG : Hid (g = w.heap.size) := hg
  clear hgrow hown hg
  go_wp2
  go_loopw [4] (fun i wr => ∃ k : Nat, k ≤ n ∧ i = .int .i64 k ∧ Cpy w wr g n k rows) (fun i _ => n - (intOf i).toNat)
  case atStart => exact ⟨0, Nat.zero_le _, rfl, hC0⟩
  case round =>
    clear hC0
    obtain ⟨k, hk, rfl, hC⟩ := hrel
    by_cases hlt : k < n
    · obtain ⟨b, off, e, hc⟩ := HR.out.2 (by omega)
      simp only [Option.some.injEq] at e
      subst e
      obtain ⟨a', n', c', g1, e2, e3, s1⟩ := hc k hlt
      have hBr : Below w.heap.size w wr := by rw [← HG.out]; exact hC.below
      have g1' : wr.cell? ⟨b, off + k, none⟩ = some (.slice a' n' c') := cell_later hBr g1
      have hn' : n' ≤ 1048576 := by have := HB.out k; have := s1.1; omega
      have hP := copy_fresh a' n' c' (rows.getD k []) wr hn' e2 e3 (s1.later hBr)
      have hlt' : (k : Int) < n := by omega
      have HC : Hid (Cpy w wr g n k rows) := hC
      clear hc s1 g1 hC e3
      go_wp2_with fail
      refine hP.mono ?_
      clear hP
      rintro e w2 ⟨a2, c2, rfl, hc2, hz2, hf2, hR2, hB2⟩
      obtain ⟨⟨v0, o0⟩, r0⟩ := HC.out.look hlt hB2
      have HN : Hid (Cpy w (w2.setCell ⟨g, k, none⟩ (.slice a2 n' c2)) g n (k + 1) rows) := HC.out.step hlt hB2 hc2 hz2 hf2 hR2
      clear hR2 hf2 hz2
      go_wp2
      go_roundw
      case rel => exact ⟨k + 1, by omega, by go_num, HN.out⟩
      case measure => simp [intOf]; omega
    · obtain rfl : n = k := by omega
      have hD := hC.done HR.out.1
      have hBr : Below w.heap.size w wr := by rw [← HG.out]; exact hC.below
      clear hC
      go_wp2
      go_ret
      exact ⟨g, rfl, hD, hBr⟩

/-- zzCopyRows: the same rows; nil stays nil, and nothing else becomes nil. -/
theorem copyR_any (a : Option Addr) (n c : Nat) (rows : List (List ByteArray)) (w : World) (hn : n ≤ 1048576) (hb : ∀ j, (rows.getD j []).length ≤ 1048576) (hnc : n ≤ c) (hnil : a = none → c = 0) (h : RdR w a n rows) :
    Calls Try.prog 10 #[.slice a n c] w fun e w' => ∃ a' c', e = .returned (.slice a' n c') ∧ n ≤ c' ∧ (a' = none → c' = 0) ∧ (a' = none ↔ a = none) ∧ RdR w' a' n rows ∧ Below w.heap.size w w' := by
  cases a with
  | none =>
    obtain rfl : c = 0 := hnil rfl
    obtain rfl : n = 0 := by omega
    refine (copyR_nil w).mono ?_
    rintro e w' ⟨rfl, rfl⟩
    exact ⟨none, 0, rfl, Nat.le_refl _, fun _ => rfl, Iff.rfl, h, Below.refl _ _⟩
  | some x =>
    refine (copyR_some x n c rows w hn hb h).mono ?_
    rintro e w' ⟨g, rfl, h1, h2⟩
    exact ⟨_, n, rfl, Nat.le_refl _, fun e => (by cases e), by simp, h1, h2⟩
end Go.Proofs.Qxb6600025a
