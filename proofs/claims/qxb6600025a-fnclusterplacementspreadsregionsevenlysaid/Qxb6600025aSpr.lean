import Derived.Test.Qxb6600025aPlace
import Derived.Test.Qxb6600025aIndex
import Derived.Test.Qxb6600025aNodes
import Derived.Test.Qxb6600025aSprPlain
namespace Go.Proofs.Qxb6600025a
set_option linter.unusedVariables false
set_option linter.unusedSimpArgs false
open Go.RowKit

/-- The counts as they stand ahead of region r. -/
def cntV (N r : Nat) : List Value := (List.range N).map fun k => Value.int .i64 (cntAt N r k)

theorem cntV_zero (N : Nat) : List.replicate N (Value.int .i64 0) = cntV N 0 := by
  apply List.ext_getElem (by simp [cntV])
  intro i h1 h2
  simp [cntV, cntAt_zero]

theorem cntV_get (N r k : Nat) (hk : k < N) : (cntV N r)[k]? = some (.int .i64 (cntAt N r k)) := by simp [cntV, hk]

theorem cntV_step (N r : Nat) (hN : 0 < N) : (cntV N r).set (r % N) (.int .i64 ((cntAt N r (r % N) : Int) + 1)) = cntV N (r + 1) := by
  apply List.ext_getElem (by simp [cntV])
  intro i h1 h2
  have h3 : i < N := by simpa [cntV] using h2
  simp only [cntV, List.getElem_set, List.getElem_map, List.getElem_range, cntAt_succ N r i hN h3]
  by_cases hk : r % N = i
  · subst hk
    simp
  · rw [if_neg hk, if_neg (fun e => hk e.symm)]
    rfl

/-- What 'seen' holds in region r, i replicas read. -/
def Seen (S : List Int) (N r i : Nat) : Prop := S.length = N ∧ ∀ k, k < N → 0 ≤ S.getD k 0 ∧ S.getD k 0 ≤ (r : Int) + 1 ∧ (S.getD k 0 = (r : Int) + 1 → ∃ j, j < i ∧ k = (r + j) % N)

theorem seen_zero (N : Nat) : Seen (List.replicate N 0) N 0 0 := by
  refine ⟨by simp, fun k hk => ?_⟩
  have : (List.replicate N (0 : Int)).getD k 0 = 0 := by simp [List.getD, hk]
  rw [this]
  exact ⟨by omega, by omega, fun h => by omega⟩

theorem Seen.fresh {S : List Int} {N r i : Nat} (h : Seen S N r i) (hi : i < N) : S.getD ((r + i) % N) 0 ≠ (r : Int) + 1 := by
  intro e
  obtain ⟨j, h1, h2⟩ := (h.2 ((r + i) % N) (Nat.mod_lt _ (by omega))).2.2 e
  exact mod_apart N r i j h1 hi h2

theorem Seen.step {S : List Int} {N r i : Nat} (h : Seen S N r i) : Seen (S.set ((r + i) % N) ((r : Int) + 1)) N r (i + 1) := by
  refine ⟨by simpa using h.1, fun k hk => ?_⟩
  by_cases e : (r + i) % N = k
  · subst e
    have : (S.set ((r + i) % N) ((r : Int) + 1)).getD ((r + i) % N) 0 = (r : Int) + 1 := by simp [List.getD, List.getElem?_set, h.1, hk]
    rw [this]
    exact ⟨by omega, by omega, fun _ => ⟨i, by omega, rfl⟩⟩
  · have : (S.set ((r + i) % N) ((r : Int) + 1)).getD k 0 = S.getD k 0 := by simp [List.getD, List.getElem?_set, e]
    rw [this]
    obtain ⟨a, b, c⟩ := h.2 k hk
    exact ⟨a, b, fun he => by obtain ⟨j, h1, h2⟩ := c he; exact ⟨j, by omega, h2⟩⟩

theorem Seen.next {S : List Int} {N r i : Nat} (h : Seen S N r i) : Seen S N (r + 1) 0 := by
  refine ⟨h.1, fun k hk => ?_⟩
  obtain ⟨a, b, c⟩ := h.2 k hk
  exact ⟨a, by omega, fun he => by omega⟩

/-- What holds of the two tables and of the old memory in region r, i replicas read. -/
structure SpRel (w3 wr : World) (ct sn N r i : Nat) : Prop where
  below : Below ct w3 wr
  cnt : wr.ownsRow ct 3 1 (.slice (some ⟨ct, 0, none⟩) N N) N (cntV N r)
  seen : ∃ S, Seen S N r i ∧ wr.ownsRow ct 3 1 (.slice (some ⟨sn, 0, none⟩) N N) N (S.map (Value.int .i64))

/-- The primary that has been found after i replicas. -/
def primV (N r i : Nat) : Int := if i = 0 then -1 else ((r % N : Nat) : Int)

theorem SpRel.start {w3 w5 : World} {ct sn N : Nat} (hB : Below ct w3 w5) (h1 : w5.ownsRow ct 3 1 (.slice (some ⟨ct, 0, none⟩) N N) N (cntV N 0)) (h2 : w5.ownsRow ct 3 1 (.slice (some ⟨sn, 0, none⟩) N N) N (List.replicate N (.int .i64 0))) : SpRel w3 w5 ct sn N 0 0 :=
  ⟨hB, h1, List.replicate N 0, seen_zero N, by rw [List.map_replicate]; exact h2⟩

theorem SpRel.look {w3 wr : World} {ct sn N r i t : Nat} (h : SpRel w3 wr ct sn N r i) (hcs : ct < sn) (ht : t = (r + i) % N) (hi : i < N) :
    ∃ x : Int, wr.cell? ⟨sn, t, none⟩ = some (.int .i64 x) ∧ wr.frozen? ⟨sn, t, none⟩ = false ∧ x ≠ (r : Int) + 1 ∧ SpRel w3 (wr.setCell ⟨sn, t, none⟩ (.int .i64 ((r : Int) + 1))) ct sn N r (i + 1) := by
  obtain ⟨hb, hc, S, hS, hO⟩ := h
  have htN : t < N := by rw [ht]; exact Nat.mod_lt _ (by omega)
  refine ⟨S.getD t 0, ?_, hO.frozenAt t, by rw [ht]; exact hS.fresh hi, hb.setCell (Nat.le_of_lt hcs) _, ?_, S.set t ((r : Int) + 1), by rw [ht]; exact hS.step, ?_⟩
  · rw [hO.cellAt t (by omega)]
    simp [List.getD, hS.1, htN]
  · exact hc.kept (hO.stored t (.int .i64 ((r : Int) + 1))).2 (.inr (by simp [Value.ownBlock]; omega))
  · have := (hO.stored t (.int .i64 ((r : Int) + 1))).1
    rwa [← List.map_set] at this

theorem SpRel.count {w3 wr : World} {ct sn N r i p : Nat} (h : SpRel w3 wr ct sn N r i) (hcs : ct < sn) (hp : p = r % N) (hN : 0 < N) :
    ∃ x : Nat, x ≤ r + 1 ∧ wr.cell? ⟨ct, p, none⟩ = some (.int .i64 x) ∧ wr.frozen? ⟨ct, p, none⟩ = false ∧ SpRel w3 (wr.setCell ⟨ct, p, none⟩ (.int .i64 ((x : Int) + 1))) ct sn N (r + 1) 0 := by
  obtain ⟨hb, hc, S, hS, hO⟩ := h
  have hpN : p < N := by rw [hp]; exact Nat.mod_lt _ hN
  have hst := hc.stored p (.int .i64 ((cntAt N r p : Int) + 1))
  refine ⟨cntAt N r p, cntAt_le N r p, ?_, hc.frozenAt p, hb.setCell (Nat.le_refl _) _, ?_, S, hS.next, ?_⟩
  · rw [hc.cellAt p (by omega)]
    exact cntV_get N r p hpN
  · have := hst.1
    rw [hp, cntV_step N r hN, ← hp] at this
    exact this
  · exact hO.kept hst.2 (.inr (by simp [Value.ownBlock]; omega))

theorem SpRel.read {w3 wr : World} {ct sn N r i k : Nat} (h : SpRel w3 wr ct sn N r i) (hk : k < N) : wr.cell? ⟨ct, k, none⟩ = some (.int .i64 (cntAt N r k)) := by
  rw [h.cnt.cellAt k (by omega)]
  exact cntV_get N r k hk

theorem SpRel.drewN {w3 wr : World} {ct sn N r i : Nat} (h : SpRel w3 wr ct sn N r i) (q : Nat) : SpRel w3 (wr.drewN q) ct sn N r i :=
  ⟨below_drewN h.below q, h.cnt, h.seen⟩

theorem rowAt {w3 : World} {rb n N m r : Nat} {nm : Nat → ByteArray} (h : RdR w3 (some ⟨rb, 0, none⟩) n (prows nm N n m)) (hr : r < n) (hm : 0 < m) :
    ∃ b off c, w3.cell? ⟨rb, r, none⟩ = some (.slice (some ⟨b, off, none⟩) m c) ∧ m ≤ c ∧ ∀ i, i < m → w3.cell? ⟨b, off + i, none⟩ = some (.string (nm ((r + i) % N))) := by
  obtain ⟨b, off, e, hc⟩ := h.2 (by omega)
  simp only [Option.some.injEq, Addr.mk.injEq, and_true] at e
  obtain ⟨rfl, rfl⟩ := e
  obtain ⟨a', n', c', h1, h2, h3⟩ := hc r hr
  have hrow : (prows nm N n m).getD r [] = prow nm N m r := by simp [prows, List.getD, hr]
  rw [hrow] at h3
  obtain ⟨h4, h5⟩ := h3
  have hn' : n' = m := by rw [← h4]; simp [prow]
  subst hn'
  obtain ⟨b', off', rfl, h6⟩ := h5 hm
  refine ⟨b', off', c', by rw [Nat.zero_add] at h1; exact h1, h2, fun i hi => ?_⟩
  rw [h6 i hi]
  simp [prow, List.getD, hi]
end Go.Proofs.Qxb6600025a
