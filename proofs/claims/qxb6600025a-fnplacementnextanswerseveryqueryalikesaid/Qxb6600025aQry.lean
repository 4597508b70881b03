import Derived.Test.Qxb6600025aNext
namespace Go.Proofs.Qxb6600025a
set_option linter.unusedVariables false
set_option linter.unusedSimpArgs false
open Go.RowKit

/-- Is the string among these? -/
def memB (ss : List ByteArray) (s : ByteArray) : Bool := ss.any fun x => s.toList == x.toList

theorem memB_true {ss : List ByteArray} {s : ByteArray} (k : Nat) (hk : k < ss.length) (h : (s.toList == (ss.getD k ByteArray.empty).toList) = true) : memB ss s = true := by
  unfold memB
  rw [List.any_eq_true]
  refine ⟨ss[k], List.getElem_mem hk, ?_⟩
  simpa [List.getD, hk] using h

theorem memB_false {ss : List ByteArray} {s : ByteArray} (h : ∀ j, j < ss.length → (s.toList == (ss.getD j ByteArray.empty).toList) = false) : memB ss s = false := by
  unfold memB
  rw [List.any_eq_false]
  intro x hx
  obtain ⟨j, hj, rfl⟩ := List.mem_iff_getElem.1 hx
  have := h j hj
  simpa [List.getD, hj] using this

theorem memB_self (ss : List ByteArray) (k : Nat) (hk : k < ss.length) : memB ss (ss.getD k ByteArray.empty) = true := memB_true k hk (by simp)

set_option maxHeartbeats 400000 in
theorem index_str (a : Option Addr) (n c : Nat) (ss : List ByteArray) (s : ByteArray) (w : World) (hn : n ≤ 1048576) (h : RdS w a n ss) :
    Calls Try.prog 29 #[.slice a n c, .string s] w fun e w' => (∃ k : Int, e = .returned (.int .i64 k) ∧ decide (0 ≤ k) = memB ss s) ∧ w = w' := by
  have H1 : Hid (RdS w a n ss) := h
  clear h
  go_enter Try.func29, Try.ntmps29
  go_wp2
  go_loop [8] (fun i => ∃ k : Nat, k ≤ n ∧ i = .int .i64 k ∧ Hid (∀ j, j < k → (s.toList == (ss.getD j ByteArray.empty).toList) = false)) (fun i => n - (intOf i).toNat)
  case atStart => exact ⟨0, Nat.zero_le _, rfl, fun j h => absurd h (by omega)⟩
  case round =>
    obtain ⟨k, hk, rfl, HF⟩ := hrel
    by_cases hlt : k < n
    · obtain ⟨b, off, e, hc⟩ := H1.out.2 (by omega)
      subst e
      have g1 := hc k hlt
      have hlt' : (k : Int) < (n : Int) := by omega
      have HE : Hid (ss.getD k ByteArray.empty = ss.getD k ByteArray.empty) := rfl
      obtain ⟨x, hx⟩ : ∃ x, x = ss.getD k ByteArray.empty := ⟨_, rfl⟩
      rw [← hx] at g1
      have HX : Hid (x = ss.getD k ByteArray.empty) := hx
      clear hc hx HE
      by_cases he : (s.toList == x.toList) = true
      · have HE : Hid ((s.toList == x.toList) = true) := he
        go_wp2
        go_ret
        refine ⟨⟨_, rfl, ?_⟩, rfl⟩
        rw [memB_true k (by have := H1.out.1; omega) (by rw [← HX.out]; exact HE.out)]
        exact decide_eq_true (by omega)
      · have he' : (s.toList == x.toList) = false := by simpa using he
        have HE : Hid ((s.toList == x.toList) = false) := he'
        clear he
        go_wp2
        go_round
        case rel =>
          refine ⟨k + 1, by omega, by go_num, ?_⟩
          intro j hj
          by_cases hjk : j < k
          · exact HF.out j hjk
          · obtain rfl : j = k := by omega
            rw [← HX.out]
            exact HE.out
        case measure => simp [intOf]; omega
    · go_wp2
      go_ret
      refine ⟨⟨_, rfl, ?_⟩, rfl⟩
      rw [memB_false (fun j hj => HF.out j (by have := H1.out.1; omega))]
      rfl

set_option maxHeartbeats 400000 in
theorem contains_str (a : Option Addr) (n c : Nat) (ss : List ByteArray) (s : ByteArray) (w : World) (hn : n ≤ 1048576) (h : RdS w a n ss) :
    Calls Try.prog 27 #[.slice a n c, .string s] w fun e w' => e = .returned (.bool (memB ss s)) ∧ w = w' := by
  have h1 := index_str a n c ss s w hn h
  clear h
  go_enter Try.func27, Try.ntmps27
  go_wp2_with fail
  refine h1.mono ?_
  clear h1
  rintro e w' ⟨⟨k, rfl, hk⟩, rfl⟩
  have HK : Hid (decide (0 ≤ k) = memB ss s) := hk
  clear hk
  go_wp2
  go_ret
  exact ⟨by rw [← HK.out]; rfl, rfl⟩

set_option maxHeartbeats 400000 in
theorem lost_any (pb : Nat) (la : Option Addr) (ln lc : Nat) (lost : List ByteArray) (s : ByteArray) (w : World) (hn : ln ≤ 1048576) (h2 : w.cell? ⟨pb, 2, none⟩ = some (.slice la ln lc)) (h : RdS w la ln lost) :
    Calls Try.prog 18 #[.pointer (some ⟨pb, 0, none⟩), .string s] w fun e w' => e = .returned (.bool (memB lost s)) ∧ w = w' := by
  have h1 := contains_str la ln lc lost s w hn h
  clear h
  go_enter Try.func18, Try.ntmps18
  go_wp2_with fail
  refine h1.mono ?_
  clear h1
  rintro e w' ⟨rfl, rfl⟩
  go_wp2
  go_ret
  exact ⟨rfl, rfl⟩

set_option maxHeartbeats 400000 in
theorem stale_any (pb : Nat) (sa : Option Addr) (sn sc r : Nat) (stale : List (List ByteArray)) (s : ByteArray) (w : World) (hn : sn ≤ 1048576) (hb : ∀ j, (stale.getD j []).length ≤ 1048576) (hz : sa = none → sn = 0) (hr : sa ≠ none → r < sn) (hr2 : r ≤ 1048576) (h2 : w.cell? ⟨pb, 3, none⟩ = some (.slice sa sn sc)) (h : RdR w sa sn stale) :
    Calls Try.prog 19 #[.pointer (some ⟨pb, 0, none⟩), .string s, .int .i64 r] w fun e w' => e = .returned (.bool (memB (stale.getD r []) s)) ∧ w = w' := by
  have q23n : ∀ (w : World) (a : Option Addr) (n c n' c' : Nat), (binOp .neq 23 (.slice a n c) (.slice none n' c')).run Try.prog w = .ok (.bool (!a.isNone)) w := fun w a n c n' c' => run_neq_slice_nil_any w _ _ a n c n' c' Try.underlying23
  cases sa with
  | none =>
    have HE : Hid (memB (stale.getD r []) s = false) := by
      have : stale = [] := List.eq_nil_of_length_eq_zero (by rw [h.1]; exact hz rfl)
      rw [this]
      rfl
    clear hz hr h hb
    go_enter Try.func19, Try.ntmps19
    go_wp2
    go_ret
    exact ⟨by rw [HE.out]; rfl, rfl⟩
  | some x =>
    have hlt := hr (by simp)
    obtain ⟨b, off, e, hc⟩ := h.2 (by omega)
    simp only [Option.some.injEq] at e
    subst e
    obtain ⟨a', n', c', h1, _, _, h4⟩ := hc r hlt
    have h5 := contains_str a' n' c' (stale.getD r []) s w (by have := hb r; have := h4.1; omega) h4
    have hlt' : (r : Int) < sn := by omega
    clear hz hr h hb hc h4
    go_enter Try.func19, Try.ntmps19
    go_wp2_with fail
    refine h5.mono ?_
    clear h5
    rintro e w' ⟨rfl, rfl⟩
    go_wp2
    go_ret
    exact ⟨rfl, rfl⟩
end Go.Proofs.Qxb6600025a
