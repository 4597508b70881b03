import Derived.Test.Qxb6600025aRotZ
namespace Go.Proofs.Qxb6600025a
set_option linter.unusedVariables false
set_option linter.unusedSimpArgs false
open Go.RowKit

set_option maxRecDepth 100000 in
set_option maxHeartbeats 3200000 in
theorem ro_pos (R K : Nat) (a : Option Addr) (N c : Nat) (ss : List ByteArray) (w : World) (hn : N ≤ maxLen) (hnc : N ≤ c) (hnil : a = none → c = 0) (h : RdS w a N ss) (hs : Short ss) (hR : R ≤ 65536) (hK : K ≤ 65536) (hR0 : 0 < R) (d8 : decide ((1048576 : Int) / R < 1 + K) = false) (hN0' : 0 < N) :
    Calls Try.prog 6 #[.int .i64 R, .int .i64 K, .slice a N c] w fun e w' => e = .returned (.bool true) ∧ Below w.heap.size w w' := by
  have q24 : ∀ (w : World) (a : Option Addr) (n c n' c' : Nat), (binOp .neq 24 (.slice a n c) (.slice none n' c')).run Try.prog w = .ok (.bool (!a.isNone)) w := fun w a n c n' c' => run_neq_slice_nil_any w _ _ a n c n' c' Try.underlying24
  have q23 : ∀ (w : World) (a : Option Addr) (n c n' c' : Nat), (binOp .neq 23 (.slice a n c) (.slice none n' c')).run Try.prog w = .ok (.bool (!a.isNone)) w := fun w a n c n' c' => run_neq_slice_nil_any w _ _ a n c n' c' Try.underlying23
  obtain ⟨i42, hi42, hz42, hs42, hb42⟩ := info_parts Try.info42
  have HR : Hid (RdS w a N ss) := h
  have HS : Hid (Short ss) := hs
  have HNIL : Hid (a = none → c = 0) := hnil
  have hB20 := bytes20 R K a N c ss w hn h hs
  clear h hs hnil
  unfold maxLen at hn
  go_enter Try.func6, Try.ntmps6
  go_wp2_with fail
  refine hB20.mono ?_
  clear hB20
  rintro e w' ⟨⟨rfl, hN1⟩ | rfl, rfl⟩
  case inr =>
    go_wp2
    go_ret
    exact ⟨rfl, Below.refl _ _⟩
  by_cases hN2 : 65536 < N
  · have d1 : decide ((65536 : Int) < N) = true := decide_eq_true (by omega)
    go_wp2
    go_ret
    exact ⟨rfl, Below.refl _ _⟩
  have d1 : decide ((65536 : Int) < N) = false := decide_eq_false (by omega)
  have hT := text_any a N c ss w hN1 HR.out HS.out
  go_wp2_with fail
  refine hT.mono ?_
  clear hT
  rintro e w' ⟨⟨t, rfl, ht0, ht1⟩, rfl⟩
  by_cases ht2 : 1048576 < t
  · have d2 : decide ((1048576 : Int) < t) = true := decide_eq_true ht2
    go_wp2
    go_ret
    exact ⟨rfl, Below.refl _ _⟩
  have d2 : decide ((1048576 : Int) < t) = false := decide_eq_false ht2
  have d3 : decide ((R : Int) < 0) = false := decide_eq_false (by omega)
  have d4 : decide ((65536 : Int) < R) = false := decide_eq_false (by omega)
  have d5 : decide ((K : Int) < 0) = false := decide_eq_false (by omega)
  have d6 : decide ((65536 : Int) < K) = false := decide_eq_false (by omega)
  have d7 : decide ((0 : Int) < R) = true := decide_eq_true (by omega)
  have hR0' : (0 : Int) < R := by omega
  have d9 : ((N : Int) == 0) = false := beq_eq_false_iff_ne.2 (by omega)
  go_wp2_with fail
  refine (copy_any a N c ss w hN1 hnc HNIL.out HR.out).mono ?_
  rintro e w1 ⟨a1, c1, rfl, hc1, hz1, hi1, hR1, hB1⟩
  obtain ⟨nm, hnm⟩ : ∃ nm : Nat → ByteArray, nm = fun t => ss.getD t ByteArray.empty := ⟨_, rfl⟩
  have HR1 : Hid (RdS w1 a1 N ss) := hR1
  have HNM : Hid (nm = fun t => ss.getD t ByteArray.empty) := hnm
  clear hR1 hnm hz1 hi1
  go_wp2_with (first | (at_make; refine wpList_make_full _ rfl _ _ 40 rfl w1.heap.size 42 i42 _ 3 Try.underlying40 hi42 hz42 hs42 _ _ _ _ N rfl rfl rfl rfl (by rw [hb42]; omega) (by unfold maxLen; omega) (Nat.le_refl _) ?_))
  intro w2 hown2 hgrow2
  have hB2 : Below w1.heap.size w1 w2 := (Below.refl _ _).grown hgrow2 (Nat.le_refl _) (by simp)
  have hN2' := make_nodes N w2 _ _ nm hown2
  obtain ⟨L, hL⟩ : ∃ L, L = w1.heap.size := ⟨_, rfl⟩
  rw [← hL] at hB2 hN2' ⊢
  have HL : Hid (L = w1.heap.size) := hL
  clear hL hgrow2 hown2
  go_wp2
  go_loopw [8] (fun i' wr => ∃ i : Nat, i ≤ N ∧ i' = .int .i64 i ∧ Below L w1 wr ∧ Nodes wr L N i nm) (fun i' _ => N - (intOf i').toNat)
  case atStart => exact ⟨0, Nat.zero_le _, rfl, hB2, hN2'⟩
  case round =>
    clear hB2 hN2'
    obtain ⟨i, hi, rfl, hB, hO⟩ := hrel
    have hLw := hO.lt
    by_cases hlt : i < N
    · obtain ⟨b1, o1, e, hcs⟩ := HR1.out.2 (by omega)
      subst e
      have g1 : wr.cell? ⟨b1, o1 + i, none⟩ = some (.string (nm i)) := by rw [HNM.out]; exact cell_later (by rw [← HL.out]; exact hB) (hcs i hlt)
      have hO2 := hO.step hlt (.string ⟨#[]⟩) (.string ⟨#[]⟩)
      obtain ⟨⟨v0, o0⟩, r0⟩ := hO.some (i * 3) (by omega)
      obtain ⟨⟨v1, o1'⟩, r1⟩ := hO.some (i * 3 + 1) (by omega)
      obtain ⟨⟨v2, o2⟩, r2⟩ := hO.some (i * 3 + 2) (by omega)
      generalize nm i = s at g1 hO2
      have HS2 : Hid (Nodes (((wr.setCell ⟨L, i * 3, none⟩ (.string s)).setCell ⟨L, i * 3 + 1, none⟩ (.string ⟨#[]⟩)).setCell ⟨L, i * 3 + 2, none⟩ (.string ⟨#[]⟩)) L N (i + 1) nm) := hO2
      have hlt' : (i : Int) < N := by omega
      clear hO hO2 hcs
      go_wp2
      go_roundw
      case rel => exact ⟨i + 1, by omega, by go_num, ((hB.setCell (Nat.le_refl _) _).setCell (Nat.le_refl _) _).setCell (Nat.le_refl _) _, HS2.out⟩
      case measure => simp [intOf]; omega
    · obtain rfl : N = i := by omega
      obtain ⟨W0, hW0⟩ : ∃ W0, W0 = wr.alloc (Obj.cells #[.int .i64 R, .int .i64 K, .slice (some ⟨L, 0, none⟩) N N] 45) := ⟨_, rfl⟩
      obtain ⟨cb, hcb⟩ : ∃ cb, cb = wr.heap.size := ⟨_, rfl⟩
      have hB0 : Below L w1 W0 := by rw [hW0]; exact hB.alloc (by omega) _
      have hP : Calls Try.prog 22 #[.pointer (some ⟨cb, 0, none⟩)] W0 _ := place_any cb R K L N N nm W0 hR hK (fun _ => hN0') (by omega) (by rw [hW0, hcb]; simp) (by rw [hW0, hcb]; simp) (by rw [hW0, hcb]; simp)
        (fun t ht => by rw [hW0, World.cell?_alloc_past _ _ _ hLw]; exact hO.cell t ht ht)
      have hsz0 : L < W0.heap.size := by rw [hW0]; simp; omega
      clear hO
      go_wp2_with fail
      rw [← hW0, ← hcb]
      refine hP.mono ?_
      clear hP hW0 hcb hB hLw
      rintro e w3 ⟨pb, rb, rfl, hPC, hRd, hB3⟩
      have hBw3 : Below w1.heap.size w1 w3 := by rw [← HL.out]; exact hB0.trans (hB3.mono (by omega))
      have hB13 : Below w.heap.size w w3 := hB1.trans (hBw3.mono hB1.size)
      have HPC : Hid (PCells w3 pb rb R) := hPC
      have HRD : Hid (RdR w3 (some ⟨rb, 0, none⟩) R (prows nm N R (1 + K))) := hRd
      obtain ⟨p0, p1, p2, p3⟩ := hPC
      have e1 : ((R : Int) != (R : Int)) = false := by simp
      obtain ⟨m, hm⟩ : ∃ m, m = 1 + K := ⟨_, rfl⟩
      rw [← hm] at HRD
      have m1 : m ≤ 1 + K := by omega
      have m2 : 1 + K ≤ m := by omega
      have em : ((m : Int) != 1 + (K : Int)) = false := by simp only [bne_eq_false_iff_eq]; omega
      clear hm hRd hB3 hB0 hsz0
      go_wp2_with fail
      go_loop [11] (fun r' => ∃ r : Nat, r ≤ R ∧ r' = .int .i64 r) (fun r' => R - (intOf r').toNat)
      case atStart => exact ⟨0, Nat.zero_le _, rfl⟩
      case round =>
        obtain ⟨r, hr, rfl⟩ := hrel
        by_cases hrR : r < R
        · obtain ⟨b2, o2, c2, k1, k2, k3⟩ := rowOf HRD.out hrR (by omega)
          have hrR' : (r : Int) < R := by omega
          clear k3
          go_wp2
          go_round
          case rel => exact ⟨r + 1, by omega, by go_num⟩
          case measure => simp [intOf]; omega
        · obtain rfl : R = r := by omega
          have hNx := next_any pb 0 (some ⟨rb, 0, none⟩) none none R R 0 0 0 0 (prows nm N R m) [] [] w3 hR (by omega) (by omega) (fun j => Nat.le_trans (prows_len nm N R m j) (by omega)) (fun j => by simp) (plc_of HPC.out HRD.out)
          go_wp2_with fail
          refine hNx.mono ?_
          clear hNx
          rintro e w4 ⟨nb, ra', rc', la', lc', sa', sc', rfl, hnb, hPl, hla, hsa, hB4⟩
          obtain rfl : sa' = none := hsa.2 rfl
          have hBw : Below w.heap.size w w4 := hB13.trans (hB4.mono hB13.size)
          have z0 : w4.cell? ⟨nb, 0, none⟩ = some (.int .u64 1) := hPl.c0
          have z1 := hPl.c1
          have z3 := hPl.c3
          clear hPl hla hsa hnb
          have eR : ((R : Int) == 0) = false := beq_eq_false_iff_ne.2 (by omega)
          obtain ⟨b1, o1, ea, hcs⟩ := HR1.out.2 hN0'
          subst ea
          have HCS : Hid (∀ j, j < N → w4.cell? ⟨b1, o1 + j, none⟩ = some (.string (nm j))) := fun j hj => by rw [HNM.out]; exact cell_later hB4 (cell_later hBw3 (hcs j hj))
          have HRD4 : Hid (RdR w4 (some ⟨rb, 0, none⟩) R (prows nm N R m)) := HRD.out.later hB4
          have y1 : w4.cell? ⟨pb, 1, none⟩ = some (.slice (some ⟨rb, 0, none⟩) R R) := cell_later hB4 p1
          obtain ⟨b0, o0, c0, f1, f2, f3⟩ := rowOf HRD4.out (show 0 < R by omega) (by omega)
          have HF3 : Hid (∀ i, i < m → w4.cell? ⟨b0, o0 + i, none⟩ = some (.string (nm ((0 + i) % N)))) := f3
          clear hcs f3 p0 p1 p2 p3 HPC HRD hB13 hBw3 HR1 HNM hB4
          go_wp2
          clear z0 z1 z3
          go_loopw [14, 16] (fun j' i' wr => ∃ i j : Nat, i ≤ m ∧ i' = .int .i64 i ∧ j' = .int .i64 j ∧ Hid (j = i % N) ∧ Below w4.heap.size w4 wr) (fun _ i' _ => m - (intOf i').toNat)
          case atStart => exact ⟨0, 0, Nat.zero_le _, rfl, rfl, (Nat.zero_mod N).symm, Below.refl _ _⟩
          case round =>
            obtain ⟨i, j, hi, rfl, rfl, HJ, hBr⟩ := hrel
            have hjN : j < N := by rw [HJ.out]; exact Nat.mod_lt _ hN0'
            by_cases hlt : i < m
            · have g1 : wr.cell? ⟨b0, o0 + i, none⟩ = some (.string (nm j)) := by rw [HJ.out]; have := HF3.out i hlt; rw [Nat.zero_add] at this; exact cell_later hBr this
              have g2 : wr.cell? ⟨b1, o1 + j, none⟩ = some (.string (nm j)) := cell_later hBr (HCS.out j hjN)
              generalize nm j = s at g1 g2
              have hiK : (i : Int) ≤ K := by omega
              have him : (i : Int) < m := by omega
              have hjN' : (j : Int) < N := by omega
              by_cases hw : j + 1 = N
              · have t1 : ((j : Int) + 1 == (N : Int)) = true := beq_iff_eq.2 (by omega)
                have HW : Hid ((i + 1) % N = 0) := mod_wrap N i j HJ.out hw
                clear hw
                go_wp2
                go_quiet (fail)
                go_wp2
                go_roundw
                case rel => exact ⟨i + 1, 0, by omega, by go_num, rfl, HW.out.symm, below_drewN hBr _⟩
                case measure => simp [intOf]; omega
              · have t1 : ((j : Int) + 1 == (N : Int)) = false := beq_eq_false_iff_ne.2 (by omega)
                have HW : Hid ((i + 1) % N = j + 1) := mod_next N i j HJ.out hN0' hw
                clear hw
                go_wp2
                go_quiet (fail)
                go_wp2
                go_roundw
                case rel => exact ⟨i + 1, j + 1, by omega, by go_num, by go_num, HW.out.symm, below_drewN hBr _⟩
                case measure => simp [intOf]; omega
            · obtain rfl : m = i := by omega
              have HJ1 : Hid (j = (K + 1) % N) := by have := HJ.out; rw [show m = K + 1 by omega] at this; exact this
              go_wp2
              go_loopw [14, 17] (fun j' r' wr => ∃ r j : Nat, 1 ≤ r ∧ r ≤ R ∧ r' = .int .i64 r ∧ j' = .int .i64 j ∧ Hid (j = (K + r) % N) ∧ Below w4.heap.size w4 wr) (fun _ r' _ => R - (intOf r').toNat)
              case atStart => exact ⟨1, j, Nat.le_refl _, by omega, by go_num, rfl, HJ1.out, hBr⟩
              case round =>
                clear HJ HJ1 hBr
                obtain ⟨r, j, hr1, hr, rfl, rfl, HJ, hBr⟩ := hrel
                have hjN : j < N := by rw [HJ.out]; exact Nat.mod_lt _ hN0'
                by_cases hrR : r < R
                · obtain ⟨q, rfl⟩ : ∃ q, r = q + 1 := ⟨r - 1, by omega⟩
                  obtain ⟨b2, o2, c2, k1, k2, k3⟩ := rowOf HRD4.out hrR (by omega)
                  obtain ⟨b3, o3, c3, l1, l2, l3⟩ := rowOf HRD4.out (show q < R by omega) (by omega)
                  have K1 : wr.cell? ⟨rb, q + 1, none⟩ = some (.slice (some ⟨b2, o2, none⟩) m c2) := cell_later hBr k1
                  have L1 : wr.cell? ⟨rb, q, none⟩ = some (.slice (some ⟨b3, o3, none⟩) m c3) := cell_later hBr l1
                  have Y1 : wr.cell? ⟨pb, 1, none⟩ = some (.slice (some ⟨rb, 0, none⟩) R R) := cell_later hBr y1
                  have HK3 : Hid (∀ i, i < m → w4.cell? ⟨b2, o2 + i, none⟩ = some (.string (nm ((q + 1 + i) % N)))) := k3
                  have HL3 : Hid (∀ i, i < m → w4.cell? ⟨b3, o3 + i, none⟩ = some (.string (nm ((q + i) % N)))) := l3
                  have hqR : (q : Int) + 1 < R := by omega
                  have hqR2 : (q : Int) < R := by omega
                  clear k1 k3 l1 l3
                  go_wp2
                  go_loopw [20] (fun i' wr => ∃ i : Nat, i ≤ K ∧ i' = .int .i64 i ∧ Below w4.heap.size w4 wr) (fun i' _ => K - (intOf i').toNat)
                  case atStart => exact ⟨0, Nat.zero_le _, rfl, hBr⟩
                  case round =>
                    clear hBr K1 L1 Y1
                    obtain ⟨i, hi, rfl, hBr⟩ := hrel
                    by_cases hiK : i < K
                    · have g1 : wr.cell? ⟨b2, o2 + i, none⟩ = some (.string (nm ((q + 1 + i) % N))) := cell_later hBr (HK3.out i (by omega))
                      have g2 : wr.cell? ⟨b3, o3 + (i + 1), none⟩ = some (.string (nm ((q + 1 + i) % N))) := by have := cell_later hBr (HL3.out (i + 1) (by omega)); rwa [show q + (i + 1) = q + 1 + i by omega] at this
                      generalize nm ((q + 1 + i) % N) = s at g1 g2
                      have hiK' : (i : Int) < K := by omega
                      have him : (i : Int) < m := by omega
                      have him2 : (i : Int) + 1 < m := by omega
                      go_wp2
                      go_quiet (fail)
                      go_wp2
                      go_roundw
                      case rel => exact ⟨i + 1, by omega, by go_num, below_drewN hBr _⟩
                      case measure => simp [intOf]; omega
                    · have g1 : wr.cell? ⟨b2, o2 + K, none⟩ = some (.string (nm j)) := by rw [HJ.out]; have := cell_later hBr (HK3.out K (by omega)); rwa [show q + 1 + K = K + (q + 1) by omega] at this
                      have g2 : wr.cell? ⟨b1, o1 + j, none⟩ = some (.string (nm j)) := cell_later hBr (HCS.out j hjN)
                      generalize nm j = s at g1 g2
                      have hKm : (K : Int) < m := by omega
                      have hjN' : (j : Int) < N := by omega
                      by_cases hw : j + 1 = N
                      · have t1 : ((j : Int) + 1 == (N : Int)) = true := beq_iff_eq.2 (by omega)
                        have HW : Hid ((K + (q + 1 + 1)) % N = 0) := mod_wrap N (K + (q + 1)) j HJ.out hw
                        clear hw
                        go_wp2
                        go_quiet (fail)
                        go_wp2
                        go_roundw
                        case rel => exact ⟨q + 1 + 1, 0, by omega, by omega, by go_num, rfl, HW.out.symm, below_drewN hBr _⟩
                        case measure => simp [intOf]; omega
                      · have t1 : ((j : Int) + 1 == (N : Int)) = false := beq_eq_false_iff_ne.2 (by omega)
                        have HW : Hid ((K + (q + 1 + 1)) % N = j + 1) := mod_next N (K + (q + 1)) j HJ.out hN0' hw
                        clear hw
                        go_wp2
                        go_quiet (fail)
                        go_wp2
                        go_roundw
                        case rel => exact ⟨q + 1 + 1, j + 1, by omega, by omega, by go_num, by go_num, HW.out.symm, below_drewN hBr _⟩
                        case measure => simp [intOf]; omega
                · go_wp2
                  go_ret
                  exact ⟨rfl, hBw.trans (hBr.mono hBw.size)⟩
end Go.Proofs.Qxb6600025a
