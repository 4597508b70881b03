import Derived.Test.Qxb6600025aSizes
namespace Go.Proofs.Qxb6600025a
set_option linter.unusedVariables false
set_option linter.unusedSimpArgs false
open Go.RowKit

set_option maxHeartbeats 800000 in
/-- zzRowsBytes: some number that is no great one; nothing turns. -/
theorem rows_any (a : Option Addr) (n c : Nat) (rows : List (List ByteArray)) (w : World) (hn : n ≤ 1048576) (hb : ∀ j, (rows.getD j []).length ≤ 1048576) (h : RdR w a n rows) (hs : ∀ j, Short (rows.getD j [])) :
    Calls Try.prog 25 #[.slice a n c] w fun e w' => (∃ t : Int, e = .returned (.int .i64 t) ∧ 0 ≤ t ∧ t ≤ 3145768) ∧ w = w' := by
  have HR : Hid (RdR w a n rows) := h
  have HS : Hid (∀ j, Short (rows.getD j [])) := hs
  have HB : Hid (∀ j, (rows.getD j []).length ≤ 1048576) := hb
  clear h hs hb
  go_enter Try.func25, Try.ntmps25
  go_wp2
  go_loop [3, 4] (fun t' i' => ∃ (t : Int) (k : Nat), t' = .int .i64 t ∧ i' = .int .i64 k ∧ k ≤ n ∧ 0 ≤ t ∧ t ≤ 1048576) (fun _ i' => n - (intOf i').toNat)
  case atStart => exact ⟨0, 0, rfl, rfl, Nat.zero_le _, by omega, by omega⟩
  case round =>
    obtain ⟨t, k, rfl, rfl, hk, ht0, ht⟩ := hrel
    by_cases hlt : k < n
    · obtain ⟨b, off, e, hc⟩ := HR.out.2 (by omega)
      subst e
      obtain ⟨a', n', c', g1, _, _, s1⟩ := hc k hlt
      have hn' : n' ≤ 1048576 := by have := HB.out k; have := s1.1; omega
      have hT := text_any a' n' c' (rows.getD k []) w hn' s1 (HS.out k)
      have hlt' : (k : Int) < n := by omega
      clear hc s1
      go_wp2_with fail
      refine hT.mono ?_
      clear hT
      rintro e w' ⟨⟨u, rfl, hu0, hu1⟩, rfl⟩
      by_cases h2 : 1048576 < t + (24 + u)
      · have d2 : decide ((1048576 : Int) < t + (24 + u)) = true := decide_eq_true h2
        go_wp2
        go_ret
        exact ⟨⟨_, rfl, by omega, by omega⟩, rfl⟩
      · have d2 : decide ((1048576 : Int) < t + (24 + u)) = false := decide_eq_false h2
        go_wp2
        go_round
        case rel => exact ⟨_, k + 1, rfl, by go_num, by omega, by omega, by omega⟩
        case measure => simp [intOf]; omega
    · go_wp2
      go_ret
      exact ⟨⟨t, rfl, ht0, by omega⟩, rfl⟩

set_option maxHeartbeats 800000 in
/-- zzPlacementTooBig: it returns; nothing turns. -/
theorem toobig_any (ra la sa : Option Addr) (rn rc ln lc sn sc : Nat) (rows stale : List (List ByteArray)) (lost : List ByteArray) (w : World)
    (hrn : rn ≤ 1048576) (hln : ln ≤ 1048576) (hsn : sn ≤ 1048576) (hrb : ∀ j, (rows.getD j []).length ≤ 1048576) (hsb : ∀ j, (stale.getD j []).length ≤ 1048576)
    (hR : RdR w ra rn rows) (hL : RdS w la ln lost) (hS : RdR w sa sn stale) (zr : ∀ j, Short (rows.getD j [])) (zl : Short lost) (zs : ∀ j, Short (stale.getD j [])) :
    Calls Try.prog 9 #[.slice ra rn rc, .slice la ln lc, .slice sa sn sc] w fun e w' => (e = .returned (.bool true) ∨ e = .returned (.bool false)) ∧ w = w' := by
  have h1 := rows_any ra rn rc rows w hrn hrb hR zr
  have h2 := text_any la ln lc lost w hln hL zl
  have h3 := rows_any sa sn sc stale w hsn hsb hS zs
  clear hR hL hS zr zl zs hrb hsb
  go_enter Try.func9, Try.ntmps9
  go_wp2_with fail
  refine h1.mono ?_
  clear h1
  rintro e w' ⟨⟨t1, rfl, a0, a1⟩, rfl⟩
  by_cases b1 : 1048576 < t1
  · have d1 : decide ((1048576 : Int) < t1) = true := decide_eq_true b1
    go_wp2
    go_ret
    exact ⟨.inl rfl, rfl⟩
  have d1 : decide ((1048576 : Int) < t1) = false := decide_eq_false b1
  go_wp2_with fail
  refine h2.mono ?_
  clear h2
  rintro e w' ⟨⟨t2, rfl, a2, a3⟩, rfl⟩
  by_cases b2 : 1048576 < t2
  · have d2 : decide ((1048576 : Int) < t2) = true := decide_eq_true b2
    go_wp2
    go_ret
    exact ⟨.inl rfl, rfl⟩
  have d2 : decide ((1048576 : Int) < t2) = false := decide_eq_false b2
  go_wp2_with fail
  refine h3.mono ?_
  clear h3
  rintro e w' ⟨⟨t3, rfl, a4, a5⟩, rfl⟩
  by_cases b3 : 1048576 < t3
  · have d3 : decide ((1048576 : Int) < t3) = true := decide_eq_true b3
    go_wp2
    go_ret
    exact ⟨.inl rfl, rfl⟩
  have d3 : decide ((1048576 : Int) < t3) = false := decide_eq_false b3
  by_cases b4 : 1048576 < t1 + t2 + t3
  · have d4 : decide ((1048576 : Int) < t1 + t2 + t3) = true := decide_eq_true b4
    go_wp2
    go_ret
    exact ⟨.inl rfl, rfl⟩
  · have d4 : decide ((1048576 : Int) < t1 + t2 + t3) = false := decide_eq_false b4
    go_wp2
    go_ret
    exact ⟨.inr rfl, rfl⟩
end Go.Proofs.Qxb6600025a
