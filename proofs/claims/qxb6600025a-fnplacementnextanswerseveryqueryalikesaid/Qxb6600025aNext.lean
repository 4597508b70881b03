import Derived.Test.Qxb6600025aGro
import Derived.Deep.DrawnRows
import Derived.Deep.RegionLaw
namespace Go.Proofs.Qxb6600025a
set_option linter.unusedVariables false
set_option linter.unusedSimpArgs false
open Go.RowKit
attribute [local go_sem ↓] Go.wp_at_zero Go.wp_at_succ

/-- A placement in memory. -/
structure Plc (w : World) (pb : Nat) (ep : Int) (ra : Option Addr) (rn rc : Nat) (rows : List (List ByteArray)) (la : Option Addr) (ln lc : Nat) (lost : List ByteArray) (sa : Option Addr) (sn sc : Nat) (stale : List (List ByteArray)) : Prop where
  c0 : w.cell? ⟨pb, 0, none⟩ = some (.int .u64 ep)
  c1 : w.cell? ⟨pb, 1, none⟩ = some (.slice ra rn rc)
  c2 : w.cell? ⟨pb, 2, none⟩ = some (.slice la ln lc)
  c3 : w.cell? ⟨pb, 3, none⟩ = some (.slice sa sn sc)
  rr : RdR w ra rn rows
  rl : RdS w la ln lost
  rs : RdR w sa sn stale
  lcap : ln ≤ lc
  lnil : la = none → lc = 0
  snil : sa = none → sn = 0

theorem Plc.later {w w' : World} {pb : Nat} {ep : Int} {ra : Option Addr} {rn rc : Nat} {rows : List (List ByteArray)} {la : Option Addr} {ln lc : Nat} {lost : List ByteArray} {sa : Option Addr} {sn sc : Nat} {stale : List (List ByteArray)}
    (h : Plc w pb ep ra rn rc rows la ln lc lost sa sn sc stale) (hB : Below w.heap.size w w') : Plc w' pb ep ra rn rc rows la ln lc lost sa sn sc stale :=
  ⟨cell_later hB h.c0, cell_later hB h.c1, cell_later hB h.c2, cell_later hB h.c3, h.rr.later hB, h.rl.later hB, h.rs.later hB, h.lcap, h.lnil, h.snil⟩

/-- What Next leaves. -/
def NextPost (w : World) (ep : Int) (rn : Nat) (rows : List (List ByteArray)) (la : Option Addr) (ln : Nat) (lost : List ByteArray) (sn : Nat) (stale : List (List ByteArray)) (e : Ending) (w' : World) : Prop :=
  ∃ nb ra' rc' la' lc' sa' sc', e = .returned (.pointer (some ⟨nb, 0, none⟩)) ∧ w.heap.size ≤ nb ∧ Plc w' nb (IntKind.u64.wrap (ep + 1)) ra' rn rc' rows la' ln lc' lost sa' sn sc' stale ∧ (la' = none ↔ la = none) ∧ (sa' = none ↔ sn = 0) ∧ Below w.heap.size w w' ∧ ∃ cs, w'.heap[nb]? = some (.cells cs 31 (0, 0))

set_option maxRecDepth 100000 in
set_option maxHeartbeats 3200000 in
theorem next_any (pb : Nat) (ep : Int) (ra la sa : Option Addr) (rn rc ln lc sn sc : Nat) (rows stale : List (List ByteArray)) (lost : List ByteArray) (w : World)
    (hrn : rn ≤ 65536) (hln : ln ≤ 65536) (hsn : sn ≤ 65536)
    (hrb : ∀ j, (rows.getD j []).length ≤ 1048576) (hsb : ∀ j, (stale.getD j []).length ≤ 1048576)
    (hP : Plc w pb ep ra rn rc rows la ln lc lost sa sn sc stale) :
    Calls Try.prog 12 #[.pointer (some ⟨pb, 0, none⟩)] w (NextPost w ep rn rows la ln lost sn stale) := by
  have q23 : ∀ (w : World) (a : Option Addr) (n c n' c' : Nat), (binOp .neq 23 (.slice a n c) (.slice none n' c')).run Try.prog w = .ok (.bool (!a.isNone)) w := fun w a n c n' c' => run_neq_slice_nil_any w _ _ a n c n' c' Try.underlying23
  obtain ⟨i24, hi24, hz24, hs24, hb24⟩ := info_parts Try.info24
  obtain ⟨p0, p1, p2, p3, hR, hL, hS, hlc, hlz, hsz⟩ := hP
  have hC := fun W (hB : Below w.heap.size w W) => clone_any la ln lc lost W (by omega) hlc hlz (hL.later hB)
  have HC : Hid (∀ W (hB : Below w.heap.size w W), _) := hC
  have HR : Hid (RdR w ra rn rows) := hR
  have HS : Hid (RdR w sa sn stale) := hS
  have HRB : Hid (∀ j, (rows.getD j []).length ≤ 1048576) := hrb
  have HSB : Hid (∀ j, (stale.getD j []).length ≤ 1048576) := hsb
  have HSZ : Hid (sa = none → sn = 0) := hsz
  clear hC hL hR hS hrb hsb hlz hsz
  go_enter Try.func12, Try.ntmps12
  go_wp2_with fail
  go_region_held3 (fun w' => w'.cell? ⟨pb, 0, none⟩ = some (.int .u64 ep) ∧ w'.cell? ⟨pb, 2, none⟩ = some (.slice la ln lc)) (first | go_keep | (exact ⟨cell_later hB1 p0, cell_later hB1 p2⟩)) (first | (go_at_call 26; refine (HC.out _ ((Below.refl _ _).drew)).mono ?_; rintro e w1 ⟨a1, c1, rfl, hc1, hz1, hi1, hf1, hR1, hB1⟩))
  have hB1' : Below w.heap.size w w1 := unb hB1
  have q1 : w1.cell? ⟨pb, 1, none⟩ = some (.slice ra rn rc) := cell_later hB1' p1
  have hpw : pb < w1.heap.size := World.block_lt_of_cell? _ _ q1
  have HI1 : Hid (a1 = none ↔ la = none) := hi1
  have HZ1 : Hid (a1 = none → c1 = 0) := hz1
  have HR1 : Hid (RdS w1 a1 ln lost) := hR1
  clear hf1 hz1 hi1 hR1 hB1 HC p0 p2
  go_wp2_with fail
  obtain ⟨nb, hnb⟩ : ∃ nb, nb = w1.heap.size := ⟨_, rfl⟩
  obtain ⟨W1, hW1⟩ : ∃ W1, W1 = w1.alloc (Obj.cells #[.int .u64 (IntKind.u64.wrap (ep + 1)), .slice none 0 0, .slice a1 ln c1, .slice none 0 0] 31) := ⟨_, rfl⟩
  rw [← hnb, ← hW1]
  have hBW : Below w.heap.size w W1 := by rw [hW1]; exact hB1'.alloc hB1'.size _
  have hBW1 : Below w1.heap.size w1 W1 := by rw [hW1]; exact (Below.refl _ _).alloc (Nat.le_refl _) _
  have hsW : W1.heap.size = nb + 1 := by rw [hW1, hnb]; simp
  have k0 : W1.cell? ⟨nb, 0, none⟩ = some (.int .u64 (IntKind.u64.wrap (ep + 1))) := by rw [hW1, hnb]; simp
  have k2 : W1.cell? ⟨nb, 2, none⟩ = some (.slice a1 ln c1) := by rw [hW1, hnb]; simp
  have k3 : W1.cell? ⟨nb, 3, none⟩ = some (.slice none 0 0) := by rw [hW1, hnb]; simp
  have hG0 : Gro W1 W1 (nb + 1) nb 1 0 rows none 0 := by
    have := Gro.start (W := W1) (nb := nb) (f := 1) (rows := rows) ⟨_, by rw [hW1, hnb]; exact heap_alloc_new w1 _⟩ (fun f' => by rw [hW1, hnb]; exact World.frozen?_alloc_new _ _ _ _) (by rw [hW1, hnb]; simp)
    rwa [hsW] at this
  have hnw : w.heap.size ≤ nb := by rw [hnb]; exact hB1'.size
  have HNB : Hid (nb = w1.heap.size) := hnb
  have HSW : Hid (W1.heap.size = nb + 1) := hsW
  have HK : Hid (W1.cell? ⟨nb, 0, none⟩ = some (.int .u64 (IntKind.u64.wrap (ep + 1))) ∧ W1.cell? ⟨nb, 2, none⟩ = some (.slice a1 ln c1) ∧ W1.cell? ⟨nb, 3, none⟩ = some (.slice none 0 0)) := ⟨k0, k2, k3⟩
  have HBW1 : Hid (Below nb w1 W1) := by rw [hnb]; exact hBW1
  clear hW1 hnb hB1' q1 hpw hsW k0 k2 k3 hBW1
  go_loopw [25] (fun k' wr => ∃ k : Nat, k ≤ rn ∧ k' = .int .i64 k ∧ ∃ va vc, Gro W1 wr (nb + 1) nb 1 k rows va vc) (fun k' _ => rn - (intOf k').toNat)
  case atStart => exact ⟨0, Nat.zero_le _, rfl, none, 0, hG0⟩
  case round =>
    clear hG0
    obtain ⟨k, hk, rfl, va, vc, hG⟩ := hrel
    by_cases hlt : k < rn
    · obtain ⟨b, off, e, hc⟩ := HR.out.2 (by omega)
      subst e
      obtain ⟨a', n', c', h1, h2, h3, h4⟩ := hc k hlt
      have hBr : Below w.heap.size w wr := hBW.trans (hG.below.mono hnw)
      have r1 : wr.cell? ⟨b, off + k, none⟩ = some (.slice a' n' c') := cell_later hBr h1
      have hn' : n' ≤ 1048576 := by have := HRB.out k; have := h4.1; omega
      have HCk : Hid (∀ W, Below wr.heap.size wr W → _) := fun W hB => clone_any a' n' c' (rows.getD k []) W hn' h2 h3 ((h4.later hBr).later hB)
      obtain ⟨xs, hxs, hrows⟩ := hG.own
      have gc := hG.cell
      have gf := hG.froz 1
      have hnbw : nb < wr.heap.size := World.block_lt_of_cell? _ _ gc
      have hnbo : some nb ≠ (Value.slice va k vc).ownBlock := fun e => by have := (owned_block_lt hxs nb e.symm).1; omega
      have hBsz : nb + 1 ≤ wr.heap.size := by omega
      have HXS : Hid (wr.ownsRow (nb + 1) 24 1 (.slice va k vc) k xs) := hxs
      have HG : Hid (Gro W1 wr (nb + 1) nb 1 k rows va vc) := hG
      have HRW : Hid (∀ j, j < k → ∃ a' n' c', xs[j]? = some (.slice a' n' c') ∧ n' ≤ c' ∧ (a' = none → c' = 0) ∧ RdSq (fun b => nb + 1 ≤ b ∧ (Value.slice va k vc).ownBlock ≠ some b) wr a' n' (rows.getD j [])) := hrows
      have hkr : (k : Int) < rn := by omega
      clear hc h1 h4 hxs hrows hG h2 h3 hn'
      go_wp2_with fail
      go_region_law (first | (refine step_append_lies _ (by rfl) _ _ _ (by rfl) (nb + 1) 24 i24 _ 1 24 Try.underlying23 hi24 hz24 hs24 hb24 rfl (by omega) (.slice va k vc) k xs (by rfl) ((owned_later HXS.out (unb hBc)).alloc _) ⟨wc.heap.size, 0, none⟩ 1 1 [.slice a2 n' c2] (by rfl) (by rfl) (cell_one_new _ _ _) (by simp [Value.oneCell']) (by omega) (by unfold maxLen; omega) (by omega) (keepZ hBc hBsz _) (wc.heap.size + 1) (by simp) ?_; intro gg cap w2 hown2 hgrow hat hlt2; obtain ⟨kc2, kf2⟩ := keepG hgrow hBc gc gf hnbo) | (go_simp; go_at_call 26; refine (HCk.out _ ((Below.refl _ _).drew)).mono ?_; rintro e wc ⟨a2, c2, rfl, hc2, hz2, hi2, hf2, hR2, hBc⟩; have hsc : wr.heap.size ≤ wc.heap.size := hBc.size; have hnc : nb < wc.heap.size := (by omega); obtain ⟨kc1, kf1⟩ := keepB hBc gc gf))
      all_goals
        have HN : Hid (Gro W1 (w2.setCell ⟨nb, 1, none⟩ (.slice (some ⟨gg, 0, none⟩) (k + 1) cap)) (nb + 1) nb 1 (k + 1) rows (some ⟨gg, 0, none⟩) cap) := HG.out.step HSW.out (by omega) HXS.out HRW.out (unb hBc) hc2 hz2 hf2 hR2 hgrow hat hown2
        clear hown2 hgrow hat hlt2 kc2 kf2 kc1 kf1 hR2 hBc hf2 hz2 hi2
        go_wp2
        go_roundw
        case rel => exact ⟨k + 1, by omega, by go_num, _, _, HN.out⟩
        case measure => simp [intOf]; omega
    · obtain rfl : rn = k := by omega
      have hBr : Below w.heap.size w wr := hBW.trans (hG.below.mono hnw)
      have r3 : wr.cell? ⟨pb, 3, none⟩ = some (.slice sa sn sc) := cell_later hBr p3
      have HG1 : Hid (Gro W1 wr (nb + 1) nb 1 rn rows va vc) := hG
      clear hG
      cases sa with
      | none =>
        go_wp2
        go_ret
        obtain ⟨d1, d2, d3⟩ := HG1.out.done HR.out.1
        obtain rfl : sn = 0 := by have := HSZ.out; simpa using this
        refine ⟨nb, va, vc, a1, c1, none, 0, rfl, hnw, ⟨(HG1.out.other 0 (by omega)).trans HK.out.1, HG1.out.cell, (HG1.out.other 2 (by omega)).trans HK.out.2.1, (HG1.out.other 3 (by omega)).trans HK.out.2.2, d1.plain, HR1.out.later (by rw [← HNB.out]; exact HBW1.out.trans HG1.out.below), ⟨HS.out.1, fun h => by omega⟩, hc1, HZ1.out, fun _ => rfl⟩, HI1.out, by simp, hBr, HG1.out.blk⟩
      | some x =>
        obtain ⟨W2, rfl⟩ : ∃ W2 : World, W2 = wr := ⟨_, rfl⟩
        obtain ⟨B2, hB2⟩ : ∃ B2, B2 = W2.heap.size := ⟨_, rfl⟩
        have hG0 : Gro W2 W2 B2 nb 3 0 stale none 0 := by rw [hB2]; exact Gro.start HG1.out.blk HG1.out.froz ((HG1.out.other 3 (by omega)).trans HK.out.2.2)
        have hnB : nb < B2 := by have := HG1.out.below.size; have := HSW.out; omega
        have HB2 : Hid (W2.heap.size = B2) := hB2.symm
        have hBw : Below w.heap.size w W2 := hBr
        clear hB2 hBr
        go_wp2
        go_loopw [51] (fun k' wr => ∃ k : Nat, k ≤ sn ∧ k' = .int .i64 k ∧ ∃ va vc, Gro W2 wr B2 nb 3 k stale va vc) (fun k' _ => sn - (intOf k').toNat)
        case atStart => exact ⟨0, Nat.zero_le _, rfl, none, 0, hG0⟩
        case round =>
          clear hG0 r3
          obtain ⟨k, hk, rfl, ta, tc, hG⟩ := hrel
          by_cases hlt : k < sn
          · obtain ⟨b, off, e, hc⟩ := HS.out.2 (by omega)
            simp only [Option.some.injEq] at e
            subst e
            obtain ⟨a', n', c', h1, h2, h3, h4⟩ := hc k hlt
            have hBr : Below w.heap.size w wr := hBw.trans (hG.below.mono hnw)
            have r1 : wr.cell? ⟨b, off + k, none⟩ = some (.slice a' n' c') := cell_later hBr h1
            have hn' : n' ≤ 1048576 := by have := HSB.out k; have := h4.1; omega
            have HCk : Hid (∀ W, Below wr.heap.size wr W → _) := fun W hB => clone_any a' n' c' (stale.getD k []) W hn' h2 h3 ((h4.later hBr).later hB)
            obtain ⟨xs, hxs, hrows⟩ := hG.own
            have gc := hG.cell
            have gf := hG.froz 3
            have hnbw : nb < wr.heap.size := World.block_lt_of_cell? _ _ gc
            have hnbo : some nb ≠ (Value.slice ta k tc).ownBlock := fun e => by have := (owned_block_lt hxs nb e.symm).1; omega
            have hBsz : B2 ≤ wr.heap.size := by have := hG.below.size; have := HB2.out; omega
            have HXS : Hid (wr.ownsRow B2 24 1 (.slice ta k tc) k xs) := hxs
            have HG : Hid (Gro W2 wr B2 nb 3 k stale ta tc) := hG
            have HRW : Hid (∀ j, j < k → ∃ a' n' c', xs[j]? = some (.slice a' n' c') ∧ n' ≤ c' ∧ (a' = none → c' = 0) ∧ RdSq (fun b => B2 ≤ b ∧ (Value.slice ta k tc).ownBlock ≠ some b) wr a' n' (stale.getD j [])) := hrows
            have hkr : (k : Int) < sn := by omega
            clear hc h1 h4 hxs hrows hG h2 h3 hn'
            go_wp2_with fail
            go_region_law (first | (refine step_append_lies _ (by rfl) _ _ _ (by rfl) B2 24 i24 _ 1 24 Try.underlying23 hi24 hz24 hs24 hb24 rfl (by omega) (.slice ta k tc) k xs (by rfl) ((owned_later HXS.out (unb hBc)).alloc _) ⟨wc.heap.size, 0, none⟩ 1 1 [.slice a2 n' c2] (by rfl) (by rfl) (cell_one_new _ _ _) (by simp [Value.oneCell']) (by omega) (by unfold maxLen; omega) (by omega) (keepY hBc hBsz _) (wc.heap.size + 1) (by simp) ?_; intro gg cap w2 hown2 hgrow hat hlt2; obtain ⟨kc2, kf2⟩ := keepG hgrow hBc gc gf hnbo) | (go_simp; go_at_call 26; refine (HCk.out _ ((Below.refl _ _).drew)).mono ?_; rintro e wc ⟨a2, c2, rfl, hc2, hz2, hi2, hf2, hR2, hBc⟩; have hsc : wr.heap.size ≤ wc.heap.size := hBc.size; have hnc : nb < wc.heap.size := (by omega); obtain ⟨kc1, kf1⟩ := keepB hBc gc gf))
            all_goals
              have HN : Hid (Gro W2 (w2.setCell ⟨nb, 3, none⟩ (.slice (some ⟨gg, 0, none⟩) (k + 1) cap)) B2 nb 3 (k + 1) stale (some ⟨gg, 0, none⟩) cap) := HG.out.step HB2.out hnB HXS.out HRW.out (unb hBc) hc2 hz2 hf2 hR2 hgrow hat hown2
              clear hown2 hgrow hat hlt2 kc2 kf2 kc1 kf1 hR2 hBc hf2 hz2 hi2
              go_wp2
              go_roundw
              case rel => exact ⟨k + 1, by omega, by go_num, _, _, HN.out⟩
              case measure => simp [intOf]; omega
          · obtain rfl : sn = k := by omega
            have HG2 : Hid (Gro W2 wr B2 nb 3 sn stale ta tc) := hG
            clear hG
            go_wp2
            go_ret
            have G1 := HG1.out
            have G2 := HG2.out
            obtain ⟨d1, d2, d3⟩ := G1.done HR.out.1
            obtain ⟨t1, t2, t3⟩ := G2.done HS.out.1
            have d1' : RdRq (fun b => nb + 1 ≤ b) wr va rn rows := d1.kept (fun b hq hb => ⟨hq, G2.same b (by rw [← HB2.out]; exact hb) (by omega)⟩)
            have hBn : Below nb w1 wr := (HBW1.out.trans G1.below).trans G2.below
            refine ⟨nb, va, vc, a1, c1, ta, tc, rfl, hnw, ⟨((G2.other 0 (by omega)).trans (G1.other 0 (by omega))).trans HK.out.1, (G2.other 1 (by omega)).trans G1.cell, ((G2.other 2 (by omega)).trans (G1.other 2 (by omega))).trans HK.out.2.1, G2.cell, d1'.plain, HR1.out.later (by rw [← HNB.out]; exact hBn), t1.plain, hc1, HZ1.out, fun e => t3.1 e⟩, HI1.out, t3, hBw.trans (G2.below.mono hnw), G2.blk⟩
end Go.Proofs.Qxb6600025a
