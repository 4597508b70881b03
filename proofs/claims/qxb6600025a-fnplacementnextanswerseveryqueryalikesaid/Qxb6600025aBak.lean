import Derived.Test.Qxb6600025aQry
namespace Go.Proofs.Qxb6600025a
set_option linter.unusedVariables false
set_option linter.unusedSimpArgs false
open Go.RowKit

/-- The names behind the first that are not lost. -/
def backs (lost row : List ByteArray) : List ByteArray := row.tail.filter fun x => !memB lost x

theorem owned_read {w : World} {base m : Nat} {v : Value} {ss : List ByteArray} (h : w.ownsRow base 9 1 v m (ss.map Value.string)) : ∃ a c, v = .slice a m c ∧ RdS w a m ss := by
  have hl : ss.length = m := by have := h.1; simpa using this
  by_cases hv : v = .slice none 0 0
  · subst hv
    rcases h.2 with ⟨_, h'⟩ | ⟨g, cap, cur, h', _⟩
    · obtain rfl : m = 0 := h'
      exact ⟨none, 0, rfl, hl, fun h => absurd h (by omega)⟩
    · simp at h'
  · obtain ⟨g, c, rfl, _, _⟩ := owned_form h hv
    exact ⟨_, c, rfl, RdS_of_owned h⟩

def backsTo (lost row : List ByteArray) (k : Nat) : List ByteArray := (row.tail.take k).filter fun x => !memB lost x

theorem backsTo_succ (lost row : List ByteArray) (k : Nat) (hk : k + 1 < row.length) : backsTo lost row (k + 1) = backsTo lost row k ++ (if memB lost (row.getD (k + 1) ByteArray.empty) = true then [] else [row.getD (k + 1) ByteArray.empty]) := by
  unfold backsTo
  have h1 : k < row.tail.length := by simp; omega
  rw [List.take_succ_eq_append_getElem h1, List.filter_append]
  have h2 : row.tail[k] = row.getD (k + 1) ByteArray.empty := by simp [List.getD, hk]
  rw [h2]
  congr 1
  generalize row.getD (k + 1) ByteArray.empty = s
  cases h : memB lost s <;> simp [List.filter, h]

theorem backsTo_all (lost row : List ByteArray) (k : Nat) (hk : row.length ≤ k + 1) : backsTo lost row k = backs lost row := by
  unfold backsTo backs
  rw [List.take_of_length_le (by simp; omega)]

set_option maxHeartbeats 400000 in
theorem backups_any (pb : Nat) (ra la : Option Addr) (rn rc ln lc r : Nat) (rows : List (List ByteArray)) (lost : List ByteArray) (w : World) (hrn : rn ≤ 1048576) (hln : ln ≤ 1048576) (hb : ∀ j, (rows.getD j []).length ≤ 1048576) (hr : r < rn) (h1 : 1 ≤ (rows.getD r []).length)
    (c1 : w.cell? ⟨pb, 1, none⟩ = some (.slice ra rn rc)) (c2 : w.cell? ⟨pb, 2, none⟩ = some (.slice la ln lc)) (hR : RdR w ra rn rows) (hL : RdS w la ln lost) :
    Calls Try.prog 17 #[.pointer (some ⟨pb, 0, none⟩), .int .i64 r] w fun e w' => ∃ a' m c', e = .returned (.slice a' m c') ∧ m ≤ 1048576 ∧ RdS w' a' m (backs lost (rows.getD r [])) ∧ Below w.heap.size w w' := by
  obtain ⟨i9, hi9, hz9, hs9, hb9⟩ := info_parts Try.info9
  obtain ⟨b, off, e, hc⟩ := hR.2 (by omega)
  subst e
  obtain ⟨a1, n1, cp1, g1, k1, k2, k3⟩ := hc r hr
  have hn1 : 1 ≤ n1 := by have := k3.1; omega
  have hn2 : n1 ≤ 1048576 := by have := k3.1; have := hb r; omega
  obtain ⟨b1, off1, e, hc1⟩ := k3.2 (by omega)
  subst e
  have HL : Hid (RdS w la ln lost) := hL
  have HC : Hid (∀ j, j < n1 → w.cell? ⟨b1, off1 + j, none⟩ = some (.string ((rows.getD r []).getD j ByteArray.empty))) := hc1
  have HN : Hid ((rows.getD r []).length = n1) := k3.1
  have hr' : (r : Int) < rn := by omega
  have hcp : ¬ ((cp1 : Int) < 1) := by omega
  clear hb hR hc k3 hc1 h1 k2 hL
  go_enter Try.func17, Try.ntmps17
  go_wp2
  · obtain rfl : n1 = 1 := by omega
    go_loop [5, 17] (fun v i => v = .slice none 0 0 ∧ i = .int .i64 0) (fun _ i => 0)
    case atStart => exact ⟨rfl, rfl⟩
    case round =>
      obtain ⟨rfl, rfl⟩ := hrel
      go_wp2
      go_ret
      exact ⟨none, 0, ⟨0, rfl⟩, by omega, ⟨(congrArg List.length (backsTo_all lost (rows.getD r []) 0 (by rw [HN.out]; omega))).symm, fun h => absurd h (by omega)⟩, Below.refl _ _⟩
  · clear g1 c1
    go_loopw [5, 17] (fun v i wr => ∃ k m : Nat, k ≤ n1 - 1 ∧ m ≤ k ∧ i = .int .i64 k ∧ wr.ownsRow w.heap.size 9 1 v m ((backsTo lost (rows.getD r []) k).map Value.string) ∧ Below w.heap.size w wr) (fun _ i _ => n1 - (intOf i).toNat)
    case atStart => exact ⟨0, 0, Nat.zero_le _, Nat.zero_le _, rfl, World.ownsRow_nil _ _ _ _, Below.refl _ _⟩
    case round =>
      obtain ⟨k, m, hk, hm, rfl, ho, hBr⟩ := hrel
      obtain ⟨va, vc, hv, hrd⟩ := owned_read ho
      subst hv
      by_cases hlt : k < n1 - 1
      · have g1 : wr.cell? ⟨b1, off1 + 1 + k, none⟩ = some (.string ((rows.getD r []).getD (k + 1) ByteArray.empty)) := by
          have := cell_later hBr (HC.out (k + 1) (by omega))
          rw [show off1 + 1 + k = off1 + (k + 1) by omega]
          exact this
        have HS : Hid (backsTo lost (rows.getD r []) (k + 1) = _) := backsTo_succ lost (rows.getD r []) k (by rw [HN.out]; omega)
        obtain ⟨s, hs⟩ : ∃ s, s = (rows.getD r []).getD (k + 1) ByteArray.empty := ⟨_, rfl⟩
        rw [← hs] at g1 HS
        have h18 := lost_any pb la ln lc lost s wr hln (cell_later hBr c2) (HL.out.later hBr)
        have HO : Hid (wr.ownsRow w.heap.size 9 1 (.slice va m vc) m ((backsTo lost (rows.getD r []) k).map Value.string)) := ho
        have hlt' : (k : Int) < ((n1 - 1 : Nat) : Int) := by omega
        have hsz : w.heap.size ≤ wr.heap.size := hBr.size
        clear hs ho hrd
        go_wp2_with fail
        refine h18.mono ?_
        clear h18
        rintro e w' ⟨rfl, rfl⟩
        cases hmem : memB lost s
        · have HM : Hid (memB lost s = false) := hmem
          clear hmem
          go_wp2_with (first | (at_builtin; refine wpList_append_own _ rfl _ _ 24 rfl w.heap.size 9 i9 _ 1 16 Try.underlying24 hi9 hz9 hs9 hb9 rfl (by omega) _ m _ rfl (HO.out.alloc _) ⟨wr.heap.size, 0, none⟩ 1 1 [.string s] rfl rfl (cell_one_new _ _ _) (by simp [Value.oneCell']) (by unfold maxLen; omega) (by omega) (by simp; omega) ?_))
          intro v' w2 hown2 hgrow hnil
          have hB2 : Below w.heap.size w w2 := (hBr.alloc hsz _).grown hgrow (by simp; omega) (fun g hg => (owned_block_lt HO.out g hg).1)
          have HO1 : w2.ownsRow w.heap.size 9 1 v' (m + 1) ((backsTo lost (rows.getD r []) (k + 1)).map Value.string) := by
            rw [HS.out, HM.out]
            simpa using hown2
          have HO2 : Hid (w2.ownsRow w.heap.size 9 1 v' (m + 1) ((backsTo lost (rows.getD r []) (k + 1)).map Value.string)) := HO1
          clear HO1
          clear hown2 hgrow hnil
          go_wp2
          go_roundw
          case rel => exact ⟨k + 1, m + 1, by omega, by omega, by go_num, HO2.out, hB2⟩
          case measure => simp [intOf]; omega
        · have HM : Hid (memB lost s = true) := hmem
          clear hmem
          go_wp2
          go_roundw
          case rel => exact ⟨k + 1, m, by omega, by omega, by go_num, by rw [HS.out, HM.out]; simpa using HO.out, hBr⟩
          case measure => simp [intOf]; omega
      · have HRD : Hid (RdS wr va m (backsTo lost (rows.getD r []) k)) := hrd
        clear hrd ho
        go_wp2
        go_ret
        exact ⟨va, m, vc, rfl, by omega, by rw [← backsTo_all lost (rows.getD r []) k (by rw [HN.out]; omega)]; exact HRD.out, hBr⟩
end Go.Proofs.Qxb6600025a
