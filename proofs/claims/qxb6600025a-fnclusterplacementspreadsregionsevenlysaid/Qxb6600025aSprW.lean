import Derived.Test.Qxb6600025aSpr
namespace Go.Proofs.Qxb6600025a
set_option linter.unusedVariables false
set_option linter.unusedSimpArgs false
open Go.RowKit

theorem make_zero_nodes (N : Nat) (w1 : World) (L : Nat) (cs : List Value) (h : w1.ownsRow L 42 3 (.slice (some ⟨L, 0, none⟩) N N) N cs) : Nodes w1 L N 0 nodeName := ⟨cs, h, fun t ht => by omega⟩

set_option maxRecDepth 100000 in
set_option maxHeartbeats 1600000 in
theorem sp_pos (n bk N : Nat) (w : World) (hn : n ≤ 65536) (hN : 1 ≤ N) (hN2 : N ≤ 65536) (hbk : bk < N) (hn0 : (0 : Int) < n) (d8 : decide ((1048576 : Int) / n < 1 + bk) = false) :
    Calls Try.prog 7 #[.int .i64 n, .int .i64 bk, .int .i64 N] w fun e w' => e = .returned (.bool true) ∧ Below w.heap.size w w' := by
  obtain ⟨i42, hi42, hz42, hs42, hb42⟩ := info_parts Try.info42
  obtain ⟨i3, hi3, hz3, hs3, hb3⟩ := info_parts Try.info3
  have d1 : decide ((N : Int) < 1) = false := decide_eq_false (by omega)
  have d2 : decide ((65536 : Int) < N) = false := decide_eq_false (by omega)
  have d3 : decide ((n : Int) < 0) = false := decide_eq_false (by omega)
  have d4 : decide ((65536 : Int) < n) = false := decide_eq_false (by omega)
  have d5 : decide ((bk : Int) < 0) = false := decide_eq_false (by omega)
  have d6 : decide ((N : Int) ≤ bk) = false := decide_eq_false (by omega)
  have d7 : decide ((0 : Int) < n) = true := decide_eq_true hn0
  go_enter Try.func7, Try.ntmps7
  go_wp2_with (first | (at_make; refine wpList_make_full _ rfl _ _ 40 rfl w.heap.size 42 i42 _ 3 Try.underlying40 hi42 hz42 hs42 _ _ _ _ N rfl rfl rfl rfl (by rw [hb42]; omega) (by unfold maxLen; omega) (Nat.le_refl _) ?_))
  intro w1 hown1 hgrow1
  have hB1 : Below w.heap.size w w1 := (Below.refl _ _).grown hgrow1 (Nat.le_refl _) (by simp)
  have hN1 := make_zero_nodes N w1 _ _ hown1
  obtain ⟨L, hL⟩ : ∃ L, L = w.heap.size := ⟨_, rfl⟩
  rw [← hL] at hB1 hN1 ⊢
  have HL : Hid (L = w.heap.size) := hL
  clear hL hgrow1 hown1
  go_wp2
  go_loopw [8] (fun i' wr => ∃ i : Nat, i ≤ N ∧ i' = .int .i64 i ∧ Below L w wr ∧ Nodes wr L N i nodeName) (fun i' _ => N - (intOf i').toNat)
  case atStart => exact ⟨0, Nat.zero_le _, rfl, hB1, hN1⟩
  case round =>
    clear hB1 hN1
    obtain ⟨i, hi, rfl, hB, hO⟩ := hrel
    have hLw := hO.lt
    by_cases hlt : i < N
    · have hP := name_any i wr (by omega)
      have HO : Hid (Nodes wr L N i nodeName) := hO
      clear hO
      generalize hnm : nodeName i = nm at hP
      have HNM : Hid (nodeName i = nm) := hnm
      clear hnm
      go_wp2_with fail
      refine hP.mono ?_
      clear hP
      rintro e w2 ⟨rfl, hB2⟩
      have hO2 := HO.out.below hB2 hLw
      have HS : Hid (Nodes (((w2.setCell ⟨L, i * 3, none⟩ (.string nm)).setCell ⟨L, i * 3 + 1, none⟩ (.string ⟨#[]⟩)).setCell ⟨L, i * 3 + 2, none⟩ (.string ⟨#[]⟩)) L N (i + 1) nodeName) := by
        have := hO2.step hlt (.string ⟨#[]⟩) (.string ⟨#[]⟩)
        rwa [HNM.out] at this
      obtain ⟨⟨v0, o0⟩, r0⟩ := hO2.some (i * 3) (by omega)
      obtain ⟨⟨v1, o1⟩, r1⟩ := hO2.some (i * 3 + 1) (by omega)
      obtain ⟨⟨v2, o2⟩, r2⟩ := hO2.some (i * 3 + 2) (by omega)
      clear hO2
      go_wp2
      go_roundw
      case rel => exact ⟨i + 1, by omega, by go_num, (((hB.trans (hB2.mono (by omega))).setCell (Nat.le_refl _) _).setCell (Nat.le_refl _) _).setCell (Nat.le_refl _) _, HS.out⟩
      case measure => simp [intOf]; omega
    · obtain rfl : N = i := by omega
      obtain ⟨W0, hW0⟩ : ∃ W0, W0 = wr.alloc (Obj.cells #[.int .i64 n, .int .i64 bk, .slice (some ⟨L, 0, none⟩) N N] 45) := ⟨_, rfl⟩
      obtain ⟨cb, hcb⟩ : ∃ cb, cb = wr.heap.size := ⟨_, rfl⟩
      have hB0 : Below L w W0 := by rw [hW0]; exact hB.alloc (by omega) _
      have hP : Calls Try.prog 22 #[.pointer (some ⟨cb, 0, none⟩)] W0 _ := place_any cb n bk L N N nodeName W0 hn (by omega) (fun _ => by omega) hN2 (by rw [hW0, hcb]; simp) (by rw [hW0, hcb]; simp) (by rw [hW0, hcb]; simp)
        (fun t ht => by rw [hW0, World.cell?_alloc_past _ _ _ hLw]; exact hO.cell t ht ht)
      have hsz0 : L < W0.heap.size := by rw [hW0]; simp; omega
      clear hO
      go_wp2_with fail
      rw [← hW0, ← hcb]
      refine hP.mono ?_
      clear hP hW0 hcb hB hLw
      rintro e w3 ⟨pb, rb, rfl, hPC, hRd, hB3⟩
      have hBw3 : Below L w w3 := hB0.trans (hB3.mono (by omega))
      have hL3 : L < w3.heap.size := by have := hB3.size; omega
      have HPC : Hid (PCells w3 pb rb n) := hPC
      have HRD : Hid (RdR w3 (some ⟨rb, 0, none⟩) n (prows nodeName N n (1 + bk))) := hRd
      have p1 := hPC.p1
      have e1 : ((n : Int) != (n : Int)) = false := by simp
      clear hPC hRd hB3 hB0 hsz0
      go_wp2_with (first | (at_make; refine wpList_make_full _ rfl _ _ 47 rfl w3.heap.size 3 i3 (.int .i64 0) 1 Try.underlying47 hi3 hz3 hs3 _ _ _ _ N rfl rfl rfl rfl (by rw [hb3]; omega) (by unfold maxLen; omega) (Nat.le_refl _) ?_))
      intro w4 hown4 hgrow4
      have hB4 : Below w3.heap.size w3 w4 := (Below.refl _ _).grown hgrow4 (Nat.le_refl _) (by simp)
      rw [toList_madeCells_one, cntV_zero] at hown4
      clear hgrow4
      go_wp2_with (first | (at_make; refine wpList_make_full _ rfl _ _ 47 rfl w3.heap.size 3 i3 (.int .i64 0) 1 Try.underlying47 hi3 hz3 hs3 _ _ _ _ N rfl rfl rfl rfl (by rw [hb3]; omega) (by unfold maxLen; omega) hB4.size ?_))
      intro w5 hown5 hgrow5
      have hB5 : Below w3.heap.size w3 w5 := hB4.grown hgrow5 hB4.size (by simp)
      have hown4' := hown4.kept hgrow5 (by simp [Value.ownBlock])
      rw [toList_madeCells_one] at hown5
      have hlt4 := owned_lt hown4
      obtain ⟨ct, hct⟩ : ∃ ct, ct = w3.heap.size := ⟨_, rfl⟩
      obtain ⟨sn, hsn⟩ : ∃ sn, sn = w4.heap.size := ⟨_, rfl⟩
      have hcs : ct < sn := by omega
      rw [← hct] at hown4' hown5 hB5 ⊢
      rw [← hsn] at hown5 ⊢
      have HCT : Hid (ct = w3.heap.size) := hct
      clear hgrow5 hown4 hB4 hlt4 hct hsn
      have hS0 : SpRel w3 w5 ct sn N 0 0 := SpRel.start hB5 hown4' hown5
      obtain ⟨m, hm⟩ : ∃ m, m = 1 + bk := ⟨_, rfl⟩
      rw [← hm] at HRD
      have m1 : m ≤ 1 + bk := by omega
      have m2 : 1 + bk ≤ m := by omega
      have em : ((m : Int) != 1 + (bk : Int)) = false := by simp only [bne_eq_false_iff_eq]; omega
      clear hm hB5 hown4' hown5
      go_wp2
      go_loopw [13] (fun r' wr => ∃ r : Nat, r ≤ n ∧ r' = .int .i64 r ∧ SpRel w3 wr ct sn N r 0) (fun r' _ => n - (intOf r').toNat)
      case atStart => exact ⟨0, Nat.zero_le _, rfl, hS0⟩
      case round =>
        clear hS0
        obtain ⟨r, hr, rfl, hS⟩ := hrel
        by_cases hrn : r < n
        · obtain ⟨b, off, c, k1, k2, k3⟩ := rowAt HRD.out hrn (by omega)
          have hbb : Below w3.heap.size w3 wr := by rw [← HCT.out]; exact hS.below
          have f1 : wr.cell? ⟨pb, 1, none⟩ = some (.slice (some ⟨rb, 0, none⟩) n n) := cell_later hbb p1
          have f2 : wr.cell? ⟨rb, r, none⟩ = some (.slice (some ⟨b, off, none⟩) m c) := cell_later hbb k1
          have HK3 : Hid (∀ i, i < m → w3.cell? ⟨b, off + i, none⟩ = some (.string (nodeName ((r + i) % N)))) := k3
          have hrn' : (r : Int) < n := by omega
          clear k1 k3 hbb
          go_wp2
          go_loopw [15, 16] (fun p' i' wr => ∃ i : Nat, i ≤ m ∧ i' = .int .i64 i ∧ p' = .int .i64 (primV N r i) ∧ SpRel w3 wr ct sn N r i) (fun _ i' _ => m - (intOf i').toNat)
          case atStart => exact ⟨0, Nat.zero_le _, rfl, rfl, hS⟩
          case round =>
            clear hS f1 f2
            obtain ⟨i, hi, rfl, rfl, hS⟩ := hrel
            by_cases him : i < m
            · obtain ⟨t, ht⟩ : ∃ t, t = (r + i) % N := ⟨_, rfl⟩
              have htN : t < N := by rw [ht]; exact Nat.mod_lt _ (by omega)
              have hbb : Below w3.heap.size w3 wr := by rw [← HCT.out]; exact hS.below
              have g1 : wr.cell? ⟨b, off + i, none⟩ = some (.string (nodeName t)) := by rw [ht]; exact cell_later hbb (HK3.out i him)
              have hI := fun W => index_any (nodeName t) (dec t) t N W (named t (by omega)) (dec_digits t (by omega)) htN hN2
              generalize nodeName t = nmt at g1 hI
              obtain ⟨x, g2, g3, g4, g5⟩ := hS.look hcs ht (by omega)
              have ex : (x == (r : Int) + 1) = false := beq_eq_false_iff_ne.2 g4
              have him' : (i : Int) < m := by omega
              have htN' : (t : Int) < N := by omega
              have HS2 : Hid (SpRel w3 (wr.setCell ⟨sn, t, none⟩ (.int .i64 ((r : Int) + 1))) ct sn N r (i + 1)) := g5
              have HT : Hid (t = (r + i) % N) := ht
              clear hS hbb g4 g5 ht
              by_cases hi0 : i = 0
              · have e0 : ((i : Int) == 0) = true := beq_iff_eq.2 (by omega)
                have HI0 : Hid (i = 0) := hi0
                clear hi0
                go_wp2_with (go_at_call 24; refine (hI _).mono ?_; rintro e w' ⟨rfl, rfl⟩)
                go_roundw
                case rel => exact ⟨i + 1, by omega, by go_num, by rw [primV, if_neg (by omega), HT.out, HI0.out, Nat.add_zero], HS2.out⟩
                case measure => simp [intOf]; omega
              · have e0 : ((i : Int) == 0) = false := beq_eq_false_iff_ne.2 (by omega)
                have hpr : Hid (primV N r i = primV N r (i + 1)) := by show primV N r i = primV N r (i + 1); rw [primV, if_neg hi0, primV, if_neg (by omega)]
                clear hi0
                go_wp2_with (go_at_call 24; refine (hI _).mono ?_; rintro e w' ⟨rfl, rfl⟩)
                go_roundw
                case rel => exact ⟨i + 1, by omega, by go_num, by rw [hpr.out], HS2.out⟩
                case measure => simp [intOf]; omega
            · obtain rfl : m = i := by omega
              obtain ⟨pp, hpp⟩ : ∃ pp, pp = r % N := ⟨_, rfl⟩
              have hpN : pp < N := by rw [hpp]; exact Nat.mod_lt _ (by omega)
              rw [show primV N r m = (pp : Int) by rw [primV, if_neg (by omega), hpp]]
              obtain ⟨x, g0, g1, g2, g3⟩ := hS.count hcs hpp (by omega)
              have HS2 : Hid (SpRel w3 (wr.setCell ⟨ct, pp, none⟩ (.int .i64 ((x : Int) + 1))) ct sn N (r + 1) 0) := g3
              have hpN' : (pp : Int) < N := by omega
              clear hS hpp g3
              go_wp2
              go_roundw
              case rel => exact ⟨r + 1, by omega, by go_num, HS2.out⟩
              case measure => simp [intOf]; omega
        · obtain rfl : n = r := by omega
          obtain ⟨q, hq⟩ : ∃ q, q = n / N := ⟨_, rfl⟩
          have hq1 : (n : Int) / (N : Int) = (q : Int) := by rw [hq]; simp
          have hq2 : q ≤ n := by rw [hq]; exact Nat.div_le_self _ _
          have HQ : Hid (q = n / N) := hq
          clear hq
          go_wp2
          go_loopw [19] (fun k' wr => ∃ k : Nat, k ≤ N ∧ k' = .int .i64 k ∧ SpRel w3 wr ct sn N n 0) (fun k' _ => N - (intOf k').toNat)
          case atStart => exact ⟨0, Nat.zero_le _, rfl, hS⟩
          case round =>
            clear hS
            obtain ⟨k, hk, rfl, hS⟩ := hrel
            by_cases hkN : k < N
            · have g1 := hS.read hkN
              have hx := cntAt_two N n k
              rw [← HQ.out] at hx
              have HS2 : Hid (SpRel w3 wr ct sn N n 0) := hS
              clear hS
              generalize hxx : cntAt N n k = x at g1 hx
              have HX : Hid (x = cntAt N n k) := hxx.symm
              clear hxx
              have hkN' : (k : Int) < N := by omega
              rcases hx with hx | hx
              · skip
                have t1 : ((x : Int) != (q : Int)) = false := by simp only [bne_eq_false_iff_eq]; omega
                by_cases hk0 : k = 0
                · have t3 : decide ((0 : Int) < (k : Int)) = false := decide_eq_false (by omega)
                  have t3' : decide (0 < k) = false := decide_eq_false (by omega)
                  clear hk0
                  go_wp2
                  go_quiet (fail)
                  go_wp2
                  go_roundw
                  case rel => exact ⟨k + 1, by omega, by go_num, HS2.out.drewN _⟩
                  case measure => simp [intOf]; omega
                · obtain ⟨k, rfl⟩ : ∃ k0, k = k0 + 1 := ⟨k - 1, by omega⟩
                  have g2 := HS2.out.read (show k < N by omega)
                  have hy : x ≤ cntAt N n k := by have := HX.out; rw [this]; exact cntAt_down N n k
                  have hy2 := cntAt_le N n k
                  generalize cntAt N n k = y at g2 hy hy2
                  have t3 : decide ((0 : Int) < ((k : Int) + 1)) = true := decide_eq_true (by omega)
                  have t4 : decide ((y : Int) < (x : Int)) = false := decide_eq_false (by omega)
                  have hkN2 : (k : Int) < N := by omega
                  clear hk0
                  go_wp2
                  go_quiet (fail)
                  go_wp2
                  go_roundw
                  case rel => exact ⟨k + 1 + 1, by omega, by go_num, HS2.out.drewN _⟩
                  case measure => simp [intOf]; omega
              · skip
                have t1 : ((x : Int) != (q : Int)) = true := by rw [bne_iff_ne]; omega
                have t2 : ((x : Int) != (q : Int) + 1) = false := by simp only [bne_eq_false_iff_eq]; omega
                by_cases hk0 : k = 0
                · have t3 : decide ((0 : Int) < (k : Int)) = false := decide_eq_false (by omega)
                  have t3' : decide (0 < k) = false := decide_eq_false (by omega)
                  clear hk0
                  go_wp2
                  go_quiet (fail)
                  go_wp2
                  go_roundw
                  case rel => exact ⟨k + 1, by omega, by go_num, HS2.out.drewN _⟩
                  case measure => simp [intOf]; omega
                · obtain ⟨k, rfl⟩ : ∃ k0, k = k0 + 1 := ⟨k - 1, by omega⟩
                  have g2 := HS2.out.read (show k < N by omega)
                  have hy : x ≤ cntAt N n k := by have := HX.out; rw [this]; exact cntAt_down N n k
                  have hy2 := cntAt_le N n k
                  generalize cntAt N n k = y at g2 hy hy2
                  have t3 : decide ((0 : Int) < ((k : Int) + 1)) = true := decide_eq_true (by omega)
                  have t4 : decide ((y : Int) < (x : Int)) = false := decide_eq_false (by omega)
                  have hkN2 : (k : Int) < N := by omega
                  clear hk0
                  go_wp2
                  go_quiet (fail)
                  go_wp2
                  go_roundw
                  case rel => exact ⟨k + 1 + 1, by omega, by go_num, HS2.out.drewN _⟩
                  case measure => simp [intOf]; omega
            · have hBf : Below L w wr := hBw3.trans (hS.below.mono (by rw [HCT.out]; omega))
              clear hS
              go_wp2
              go_ret
              exact ⟨rfl, by have := hBf; rw [HL.out] at this; exact this⟩
end Go.Proofs.Qxb6600025a
