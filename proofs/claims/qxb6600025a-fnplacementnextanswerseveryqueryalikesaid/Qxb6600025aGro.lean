import Derived.Test.Qxb6600025aClone
import Derived.Deep.RegionHeld3
import Derived.Deep.AppendLies
namespace Go.Proofs.Qxb6600025a
set_option linter.unusedVariables false
set_option linter.unusedSimpArgs false
open Go.RowKit

theorem unb {w w1 : World} (h : Below w.drew.heap.size w.drew w1) : Below w.heap.size w w1 := ⟨h.os, h.tape, h.output, h.size, h.block⟩

theorem keepB {wr wc : World} {nb f : Nat} {v : Value} (hB : Below wr.drew.heap.size wr.drew wc) (hc : wr.cell? ⟨nb, f, none⟩ = some v) (hf : wr.frozen? ⟨nb, f, none⟩ = false) :
    wc.cell? ⟨nb, f, none⟩ = some v ∧ wc.frozen? ⟨nb, f, none⟩ = false :=
  have hl : nb < wr.heap.size := World.block_lt_of_cell? _ _ hc
  ⟨((unb hB).cell (p := ⟨nb, f, none⟩) hl).trans hc, ((unb hB).frozen (p := ⟨nb, f, none⟩) hl).trans hf⟩

theorem keepA {wr wc : World} {nb f : Nat} {v : Value} (hB : Below wr.drew.heap.size wr.drew wc) (hc : wr.cell? ⟨nb, f, none⟩ = some v) (hf : wr.frozen? ⟨nb, f, none⟩ = false) (o : Obj) :
    (wc.alloc o).cell? ⟨nb, f, none⟩ = some v ∧ (wc.alloc o).frozen? ⟨nb, f, none⟩ = false := by
  obtain ⟨h1, h2⟩ := keepB hB hc hf
  have hl : nb < wc.heap.size := World.block_lt_of_cell? _ _ h1
  rw [World.cell?_alloc_past _ _ _ hl, World.frozen?_alloc_past _ _ _ hl]
  exact ⟨h1, h2⟩

theorem keepG {wr wc w2 : World} {nb f : Nat} {v : Value} {o : Obj} {row : Option Nat} (hg : (wc.alloc o).grownBy w2 row) (hB : Below wr.drew.heap.size wr.drew wc) (hc : wr.cell? ⟨nb, f, none⟩ = some v) (hf : wr.frozen? ⟨nb, f, none⟩ = false) (hne : some nb ≠ row) :
    w2.cell? ⟨nb, f, none⟩ = some v ∧ w2.frozen? ⟨nb, f, none⟩ = false := by
  obtain ⟨h1, h2⟩ := keepA hB hc hf o
  have hl : nb < (wc.alloc o).heap.size := World.block_lt_of_cell? _ _ h1
  rw [hg.cell_far ⟨nb, f, none⟩ hl hne, hg.frozen_far ⟨nb, f, none⟩ hl hne]
  exact ⟨h1, h2⟩

theorem keepZ {wr wc : World} {nb : Nat} (hB : Below wr.drew.heap.size wr.drew wc) (h : nb + 1 ≤ wr.heap.size) (o : Obj) : nb + 1 ≤ (wc.alloc o).heap.size := by
  have h1 := (unb hB).size
  have h2 : (wc.alloc o).heap.size = wc.heap.size + 1 := by simp
  omega

theorem keepY {wr wc : World} {B : Nat} (hB : Below wr.drew.heap.size wr.drew wc) (h : B ≤ wr.heap.size) (o : Obj) : B ≤ (wc.alloc o).heap.size := by
  have h1 := (unb hB).size
  have h2 : (wc.alloc o).heap.size = wc.heap.size + 1 := by simp
  omega

/-- As RdS, RdR, every block that is read bearing Q. -/
def RdSq (Q : Nat → Prop) (w : World) (a : Option Addr) (n : Nat) (ss : List ByteArray) : Prop :=
  ss.length = n ∧ (0 < n → ∃ b off, a = some ⟨b, off, none⟩ ∧ Q b ∧ ∀ j, j < n → w.cell? ⟨b, off + j, none⟩ = some (.string (ss.getD j ByteArray.empty)))
def RdRq (Q : Nat → Prop) (w : World) (a : Option Addr) (n : Nat) (rows : List (List ByteArray)) : Prop :=
  rows.length = n ∧ (0 < n → ∃ b off, a = some ⟨b, off, none⟩ ∧ Q b ∧ ∀ j, j < n → ∃ a' n' c', w.cell? ⟨b, off + j, none⟩ = some (.slice a' n' c') ∧ n' ≤ c' ∧ (a' = none → c' = 0) ∧ RdSq Q w a' n' (rows.getD j []))

theorem RdSq.plain {Q : Nat → Prop} {w : World} {a : Option Addr} {n : Nat} {ss : List ByteArray} (h : RdSq Q w a n ss) : RdS w a n ss := by
  refine ⟨h.1, fun h0 => ?_⟩
  obtain ⟨b, off, e, _, hc⟩ := h.2 h0
  exact ⟨b, off, e, hc⟩

theorem RdRq.plain {Q : Nat → Prop} {w : World} {a : Option Addr} {n : Nat} {rows : List (List ByteArray)} (h : RdRq Q w a n rows) : RdR w a n rows := by
  refine ⟨h.1, fun h0 => ?_⟩
  obtain ⟨b, off, e, _, hc⟩ := h.2 h0
  refine ⟨b, off, e, fun j hj => ?_⟩
  obtain ⟨a', n', c', h1, h2, h3, h4⟩ := hc j hj
  exact ⟨a', n', c', h1, h2, h3, h4.plain⟩

theorem RdSq.kept {Q Q' : Nat → Prop} {w w' : World} {a : Option Addr} {n : Nat} {ss : List ByteArray} (h : RdSq Q w a n ss) (hb : ∀ b, Q b → b < w.heap.size → Q' b ∧ w'.heap[b]? = w.heap[b]?) : RdSq Q' w' a n ss := by
  refine ⟨h.1, fun h0 => ?_⟩
  obtain ⟨b, off, e, hq, hc⟩ := h.2 h0
  obtain ⟨k1, k2⟩ := hb b hq (World.block_lt_of_cell? _ _ (hc 0 h0))
  exact ⟨b, off, e, k1, fun j hj => (World.cell?_of_block (w := w) (a := ⟨b, off + j, none⟩) k2).trans (hc j hj)⟩

theorem RdRq.kept {Q Q' : Nat → Prop} {w w' : World} {a : Option Addr} {n : Nat} {rows : List (List ByteArray)} (h : RdRq Q w a n rows) (hb : ∀ b, Q b → b < w.heap.size → Q' b ∧ w'.heap[b]? = w.heap[b]?) : RdRq Q' w' a n rows := by
  refine ⟨h.1, fun h0 => ?_⟩
  obtain ⟨b, off, e, hq, hc⟩ := h.2 h0
  have hc0 := hc 0 h0
  obtain ⟨a0, n0, c0, k0, _⟩ := hc0
  obtain ⟨k1, k2⟩ := hb b hq (World.block_lt_of_cell? _ _ k0)
  refine ⟨b, off, e, k1, fun j hj => ?_⟩
  obtain ⟨a', n', c', h1, h2, h3, h4⟩ := hc j hj
  exact ⟨a', n', c', (World.cell?_of_block (w := w) (a := ⟨b, off + j, none⟩) k2).trans h1, h2, h3, h4.kept hb⟩

/-- A field of a new struct (block nb, cell f) that gathers rows, k of them so far: W the world in which the gathering began, B its size. -/
structure Gro (W wr : World) (B nb f k : Nat) (rows : List (List ByteArray)) (va : Option Addr) (vc : Nat) : Prop where
  below : Below nb W wr
  same : ∀ b, b < B → b ≠ nb → wr.heap[b]? = W.heap[b]?
  other : ∀ f', f' ≠ f → wr.cell? ⟨nb, f', none⟩ = W.cell? ⟨nb, f', none⟩
  froz : ∀ f', wr.frozen? ⟨nb, f', none⟩ = false
  cell : wr.cell? ⟨nb, f, none⟩ = some (.slice va k vc)
  isNil : va = none ↔ k = 0
  blk : ∃ cs, wr.heap[nb]? = some (.cells cs 31 (0, 0))
  own : ∃ xs, wr.ownsRow B 24 1 (.slice va k vc) k xs ∧ ∀ j, j < k → ∃ a' n' c', xs[j]? = some (.slice a' n' c') ∧ n' ≤ c' ∧ (a' = none → c' = 0) ∧ RdSq (fun b => B ≤ b ∧ (Value.slice va k vc).ownBlock ≠ some b) wr a' n' (rows.getD j [])

theorem Gro.start {W : World} {nb f : Nat} {rows : List (List ByteArray)} (hk : ∃ cs, W.heap[nb]? = some (.cells cs 31 (0, 0))) (hf : ∀ f', W.frozen? ⟨nb, f', none⟩ = false) (hc : W.cell? ⟨nb, f, none⟩ = some (.slice none 0 0)) : Gro W W W.heap.size nb f 0 rows none 0 :=
  ⟨Below.refl _ _, fun _ _ _ => rfl, fun _ _ => rfl, hf, hc, by simp, hk, [], World.ownsRow_nil _ _ _ _, fun j hj => by omega⟩

theorem Gro.step {W wr w1 w2 : World} {B nb f k : Nat} {rows : List (List ByteArray)} {va : Option Addr} {vc : Nat} {xs : List Value} {ra : Option Addr} {rn rc gg cap : Nat}
    (h : Gro W wr B nb f k rows va vc) (hB : W.heap.size = B) (hnb : nb < B)
    (hxs : wr.ownsRow B 24 1 (.slice va k vc) k xs) (hrows : ∀ j, j < k → ∃ a' n' c', xs[j]? = some (.slice a' n' c') ∧ n' ≤ c' ∧ (a' = none → c' = 0) ∧ RdSq (fun b => B ≤ b ∧ (Value.slice va k vc).ownBlock ≠ some b) wr a' n' (rows.getD j []))
    (hB1 : Below wr.heap.size wr w1) (hrc : rn ≤ rc) (hrz : ra = none → rc = 0) (hfr : ∀ x, ra = some x → wr.heap.size ≤ x.block) (hR : RdS w1 ra rn (rows.getD k []))
    (hg : (w1.alloc (.cells #[.slice ra rn rc] 24)).grownBy w2 (Value.slice va k vc).ownBlock) (hat : (Value.slice va k vc).ownBlock = some gg ∨ gg = w1.heap.size + 1)
    (ho : w2.ownsRow B 24 1 (.slice (some ⟨gg, 0, none⟩) (k + 1) cap) (k + 1) (xs ++ [.slice ra rn rc])) :
    Gro W (w2.setCell ⟨nb, f, none⟩ (.slice (some ⟨gg, 0, none⟩) (k + 1) cap)) B nb f (k + 1) rows (some ⟨gg, 0, none⟩) cap := by
  have hsz : W.heap.size ≤ wr.heap.size := h.below.size
  have hsz1 := hB1.size
  have hsz2 := hg.size
  have hsa : (w1.alloc (.cells #[.slice ra rn rc] 24)).heap.size = w1.heap.size + 1 := by simp
  have hlb : ∀ g, (Value.slice va k vc).ownBlock = some g → B ≤ g ∧ g < wr.heap.size := owned_block_lt hxs
  -- a block of wr that is neither nb nor the row's own is as it was
  have hold : ∀ b, b < wr.heap.size → b ≠ nb → (Value.slice va k vc).ownBlock ≠ some b → (w2.setCell ⟨nb, f, none⟩ (.slice (some ⟨gg, 0, none⟩) (k + 1) cap)).heap[b]? = wr.heap[b]? := by
    intro b hb hn ho
    rw [Below.heap_setCell _ _ _ _ hn, hg.block b (by omega) (fun e => ho e.symm), Below.heap_alloc _ _ _ (by omega), hB1.block b hb]
  have hnbo : (Value.slice va k vc).ownBlock ≠ some nb := fun e => by have := (hlb nb e).1; omega
  have hnb2 : w2.heap[nb]? = wr.heap[nb]? := by
    rw [hg.block nb (by omega) (fun e => hnbo e.symm), Below.heap_alloc _ _ _ (by omega), hB1.block nb (by omega)]
  have hgg : B ≤ gg := by
    rcases hat with e | e
    · exact (hlb gg e).1
    · omega
  refine ⟨?_, ?_, ?_, ?_, ?_, by simp, ?_, xs ++ [.slice ra rn rc], ?_, ?_⟩
  · refine (h.below.trans (((hB1.mono (by omega)).alloc (by omega) _).grown hg (by rw [hsa]; omega) ?_)).setCell (Nat.le_refl _) _
    intro g e; have := (hlb g e).1; omega
  · intro b hb hn
    rw [hold b (by omega) hn (fun e => by have := (hlb b e).1; omega)]
    exact h.same b hb hn
  · intro f' hf'
    rw [World.cell?_setCell_other _ _ _ _ (by simp only [ne_eq, Addr.mk.injEq, true_and, and_true]; omega), World.cell?_of_block (w := wr) (w' := w2) (a := ⟨nb, f', none⟩) hnb2]
    exact h.other f' hf'
  · intro f'
    rw [World.frozen?_setCell, World.frozen?_of_block (w := wr) (w' := w2) (a := ⟨nb, f', none⟩) hnb2]
    exact h.froz f'
  · exact World.cell?_setCell_same _ _ _ ((World.cell?_of_block (w := wr) (w' := w2) (a := ⟨nb, f, none⟩) hnb2).trans h.cell)
  · obtain ⟨cs, hcs⟩ := h.blk
    exact ⟨_, heap_setCell_same w2 nb f cs 31 _ (hnb2.trans hcs)⟩
  · exact owned_of_block ho (Below.heap_setCell _ _ _ _ (by simp only; omega))
  · intro j hj
    by_cases hjk : j < k
    · obtain ⟨a', n', c', e1, e2, e3, e4⟩ := hrows j hjk
      refine ⟨a', n', c', ?_, e2, e3, e4.kept ?_⟩
      · rw [List.getElem?_append_left (by have := hxs.1; omega)]; exact e1
      · rintro b ⟨q1, q2⟩ hb
        refine ⟨⟨q1, ?_⟩, hold b hb (by omega) q2⟩
        simp only [Value.ownBlock, ne_eq, Option.some.injEq]
        rcases hat with e | e
        · intro e'; subst e'; exact q2 e
        · omega
    · obtain rfl : j = k := by omega
      refine ⟨ra, rn, rc, ?_, hrc, hrz, hR.1, fun h0 => ?_⟩
      · rw [List.getElem?_append_right (by have := hxs.1; omega)]
        have := hxs.1
        simp [show j - xs.length = 0 by omega]
      · obtain ⟨b, off, e, hc⟩ := hR.2 h0
        have hbf := hfr _ e
        have hbl : b < w1.heap.size := World.block_lt_of_cell? _ _ (hc 0 h0)
        simp only at hbf
        have hkeep : (w2.setCell ⟨nb, f, none⟩ (.slice (some ⟨gg, 0, none⟩) (j + 1) cap)).heap[b]? = w1.heap[b]? := by
          rw [Below.heap_setCell _ _ _ _ (by simp only; omega), hg.block b (by omega) (fun e => by have := (hlb b e.symm).2; omega), Below.heap_alloc _ _ _ (by omega)]
        refine ⟨b, off, e, ⟨by omega, ?_⟩, fun t ht => ?_⟩
        · simp only [Value.ownBlock, ne_eq, Option.some.injEq]
          rcases hat with e | e
          · have := (hlb gg e).2; omega
          · omega
        · exact (World.cell?_of_block (w := w1) (a := ⟨b, off + t, none⟩) hkeep).trans (hc t ht)

theorem Gro.drew {W wr : World} {B nb f k : Nat} {rows : List (List ByteArray)} {va : Option Addr} {vc : Nat} (h : Gro W wr B nb f k rows va vc) : Gro W wr.drew B nb f k rows va vc :=
  ⟨h.below.drew, h.same, h.other, h.froz, h.cell, h.isNil, h.blk, h.own⟩

theorem Gro.done {W wr : World} {B nb f n : Nat} {rows : List (List ByteArray)} {va : Option Addr} {vc : Nat} (h : Gro W wr B nb f n rows va vc) (hl : rows.length = n) : RdRq (fun b => B ≤ b) wr va n rows ∧ n ≤ vc ∧ (va = none ↔ n = 0) := by
  obtain ⟨xs, ho, hr⟩ := h.own
  rcases ho.2 with ⟨e, e0⟩ | ⟨g, cap, cur, e, hb, hg, hc, _⟩
  · simp only [Value.slice.injEq] at e
    obtain ⟨rfl, rfl, rfl⟩ := e
    exact ⟨⟨hl, fun h0 => by omega⟩, Nat.le_refl _, h.isNil⟩
  · simp only [Value.slice.injEq] at e
    obtain ⟨rfl, _, rfl⟩ := e
    refine ⟨⟨hl, fun h0 => ⟨g, 0, rfl, hb, fun j hj => ?_⟩⟩, hc, h.isNil⟩
    obtain ⟨a', n', c', e1, e2, e3, e4⟩ := hr j hj
    refine ⟨a', n', c', ?_, e2, e3, e4.kept (fun b hq _ => ⟨hq.1, rfl⟩)⟩
    rw [Nat.zero_add, ho.cellAt j (by omega)]
    exact e1
end Go.Proofs.Qxb6600025a
