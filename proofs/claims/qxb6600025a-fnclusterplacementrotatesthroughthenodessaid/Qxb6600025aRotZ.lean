import Derived.Test.Qxb6600025aRotE
namespace Go.Proofs.Qxb6600025a
set_option linter.unusedVariables false
set_option linter.unusedSimpArgs false
open Go.RowKit

theorem mod_wrap (N i t : Nat) (h : t = i % N) (h1 : t + 1 = N) : (i + 1) % N = 0 := by
  rw [← Nat.mod_add_mod, ← h, h1, Nat.mod_self]
theorem mod_next (N i t : Nat) (h : t = i % N) (hN : 0 < N) (h1 : ¬ t + 1 = N) : (i + 1) % N = t + 1 := by
  have := Nat.mod_lt i hN
  rw [← Nat.mod_add_mod, ← h, Nat.mod_eq_of_lt (by omega)]

theorem prows_len (nm : Nat → ByteArray) (N n m j : Nat) : ((prows nm N n m).getD j []).length ≤ m := by
  by_cases h : j < n
  · simp [prows, List.getD, h, prow]
  · simp [prows, List.getD, h]

theorem rowOf {w3 : World} {rb n N m r : Nat} {nm : Nat → ByteArray} (h : RdR w3 (some ⟨rb, 0, none⟩) n (prows nm N n m)) (hr : r < n) (hm : 0 < m) :
    ∃ b off c, w3.cell? ⟨rb, r, none⟩ = some (.slice (some ⟨b, off, none⟩) m c) ∧ m ≤ c ∧ ∀ i, i < m → w3.cell? ⟨b, off + i, none⟩ = some (.string (nm ((r + i) % N))) := by
  obtain ⟨b, off, e, hc⟩ := h.2 (by omega)
  simp only [Option.some.injEq, Addr.mk.injEq, and_true] at e
  obtain ⟨rfl, rfl⟩ := e
  obtain ⟨a', n', c', h1, h2, _, h3⟩ := hc r hr
  have hrow : (prows nm N n m).getD r [] = prow nm N m r := by simp [prows, List.getD, hr]
  rw [hrow] at h3
  obtain ⟨h4, h5⟩ := h3
  have hn' : n' = m := by rw [← h4]; simp [prow]
  subst hn'
  obtain ⟨b', off', rfl, h6⟩ := h5 hm
  refine ⟨b', off', c', by rw [Nat.zero_add] at h1; exact h1, h2, fun i hi => ?_⟩
  rw [h6 i hi]
  simp [prow, List.getD, hi]

theorem plc_of {w : World} {pb rb n N m : Nat} {nm : Nat → ByteArray} (h : PCells w pb rb n) (hR : RdR w (some ⟨rb, 0, none⟩) n (prows nm N n m)) : Plc w pb 0 (some ⟨rb, 0, none⟩) n n (prows nm N n m) none 0 0 [] none 0 0 [] :=
  ⟨h.p0, h.p1, h.p2, h.p3, hR, ⟨rfl, fun h => by omega⟩, ⟨rfl, fun h => by omega⟩, Nat.le_refl _, fun _ => rfl, fun _ => rfl⟩

theorem make_nodes (N : Nat) (w1 : World) (L : Nat) (cs : List Value) (nm : Nat → ByteArray) (h : w1.ownsRow L 42 3 (.slice (some ⟨L, 0, none⟩) N N) N cs) : Nodes w1 L N 0 nm := ⟨cs, h, fun t ht => by omega⟩

set_option maxRecDepth 100000 in
set_option maxHeartbeats 3200000 in
theorem ro_zero (R K : Nat) (a : Option Addr) (N c : Nat) (ss : List ByteArray) (w : World) (hn : N ≤ maxLen) (hnc : N ≤ c) (hnil : a = none → c = 0) (h : RdS w a N ss) (hs : Short ss) (hR : R ≤ 65536) (hK : K ≤ 65536) (hR0 : R ≤ 0) :
    Calls Try.prog 6 #[.int .i64 R, .int .i64 K, .slice a N c] w fun e w' => e = .returned (.bool true) ∧ Below w.heap.size w w' := by
  have q24 : ∀ (w : World) (a : Option Addr) (n c n' c' : Nat), (binOp .neq 24 (.slice a n c) (.slice none n' c')).run Try.prog w = .ok (.bool (!a.isNone)) w := fun w a n c n' c' => run_neq_slice_nil_any w _ _ a n c n' c' Try.underlying24
  have q23 : ∀ (w : World) (a : Option Addr) (n c n' c' : Nat), (binOp .neq 23 (.slice a n c) (.slice none n' c')).run Try.prog w = .ok (.bool (!a.isNone)) w := fun w a n c n' c' => run_neq_slice_nil_any w _ _ a n c n' c' Try.underlying23
  obtain ⟨i42, hi42, hz42, hs42, hb42⟩ := info_parts Try.info42
  have HR : Hid (RdS w a N ss) := h
  have HS : Hid (Short ss) := hs
  have HNIL : Hid (a = none → c = 0) := hnil
  have hB20 := bytes20 R K a N c ss w hn h hs
  clear h hs hnil
  unfold maxLen at hn
  go_enter Try.func6, Try.ntmps6
  go_wp2_with fail
  refine hB20.mono ?_
  clear hB20
  rintro e w' ⟨⟨rfl, hN1⟩ | rfl, rfl⟩
  case inr =>
    go_wp2
    go_ret
    exact ⟨rfl, Below.refl _ _⟩
  by_cases hN2 : 65536 < N
  · have d1 : decide ((65536 : Int) < N) = true := decide_eq_true (by omega)
    go_wp2
    go_ret
    exact ⟨rfl, Below.refl _ _⟩
  have d1 : decide ((65536 : Int) < N) = false := decide_eq_false (by omega)
  have hT := text_any a N c ss w hN1 HR.out HS.out
  go_wp2_with fail
  refine hT.mono ?_
  clear hT
  rintro e w' ⟨⟨t, rfl, ht0, ht1⟩, rfl⟩
  by_cases ht2 : 1048576 < t
  · have d2 : decide ((1048576 : Int) < t) = true := decide_eq_true ht2
    go_wp2
    go_ret
    exact ⟨rfl, Below.refl _ _⟩
  have d2 : decide ((1048576 : Int) < t) = false := decide_eq_false ht2
  have d3 : decide ((R : Int) < 0) = false := decide_eq_false (by omega)
  have d4 : decide ((65536 : Int) < R) = false := decide_eq_false (by omega)
  have d5 : decide ((K : Int) < 0) = false := decide_eq_false (by omega)
  have d6 : decide ((65536 : Int) < K) = false := decide_eq_false (by omega)
  have d7 : decide ((0 : Int) < R) = false := decide_eq_false (by omega)
  have d7' : decide (0 < R) = false := decide_eq_false (by omega)
  by_cases hN0 : N = 0
  · have d9 : ((N : Int) == 0) = true := beq_iff_eq.2 (by omega)
    have hN0' : N ≤ 0 := by omega
    clear hN0
    go_wp2_with fail
    refine (copy_any a N c ss w hN1 hnc HNIL.out HR.out).mono ?_
    rintro e w1 ⟨a1, c1, rfl, hc1, hz1, hi1, hR1, hB1⟩
    obtain ⟨nm, hnm⟩ : ∃ nm : Nat → ByteArray, nm = fun t => ss.getD t ByteArray.empty := ⟨_, rfl⟩
    have HR1 : Hid (RdS w1 a1 N ss) := hR1
    have HNM : Hid (nm = fun t => ss.getD t ByteArray.empty) := hnm
    clear hR1 hnm hz1 hi1
    go_wp2_with (first | (at_make; refine wpList_make_full _ rfl _ _ 40 rfl w1.heap.size 42 i42 _ 3 Try.underlying40 hi42 hz42 hs42 _ _ _ _ N rfl rfl rfl rfl (by rw [hb42]; omega) (by unfold maxLen; omega) (Nat.le_refl _) ?_))
    intro w2 hown2 hgrow2
    have hB2 : Below w1.heap.size w1 w2 := (Below.refl _ _).grown hgrow2 (Nat.le_refl _) (by simp)
    have hN2' := make_nodes N w2 _ _ nm hown2
    obtain ⟨L, hL⟩ : ∃ L, L = w1.heap.size := ⟨_, rfl⟩
    rw [← hL] at hB2 hN2' ⊢
    have HL : Hid (L = w1.heap.size) := hL
    clear hL hgrow2 hown2
    go_wp2
    go_loopw [8] (fun i' wr => ∃ i : Nat, i ≤ N ∧ i' = .int .i64 i ∧ Below L w1 wr ∧ Nodes wr L N i nm) (fun i' _ => N - (intOf i').toNat)
    case atStart => exact ⟨0, Nat.zero_le _, rfl, hB2, hN2'⟩
    case round =>
      clear hB2 hN2'
      obtain ⟨i, hi, rfl, hB, hO⟩ := hrel
      have hLw := hO.lt
      by_cases hlt : i < N
      · exfalso; omega
      · obtain rfl : N = i := by omega
        obtain ⟨W0, hW0⟩ : ∃ W0, W0 = wr.alloc (Obj.cells #[.int .i64 R, .int .i64 K, .slice (some ⟨L, 0, none⟩) N N] 45) := ⟨_, rfl⟩
        obtain ⟨cb, hcb⟩ : ∃ cb, cb = wr.heap.size := ⟨_, rfl⟩
        have hB0 : Below L w1 W0 := by rw [hW0]; exact hB.alloc (by omega) _
        have hP : Calls Try.prog 22 #[.pointer (some ⟨cb, 0, none⟩)] W0 _ := place_any cb R K L N N nm W0 hR hK (fun h => by omega) (by omega) (by rw [hW0, hcb]; simp) (by rw [hW0, hcb]; simp) (by rw [hW0, hcb]; simp)
          (fun t ht => by rw [hW0, World.cell?_alloc_past _ _ _ hLw]; exact hO.cell t ht ht)
        have hsz0 : L < W0.heap.size := by rw [hW0]; simp; omega
        clear hO
        go_wp2_with fail
        rw [← hW0, ← hcb]
        refine hP.mono ?_
        clear hP hW0 hcb hB hLw
        rintro e w3 ⟨pb, rb, rfl, hPC, hRd, hB3⟩
        have hBw3 : Below w1.heap.size w1 w3 := by rw [← HL.out]; exact hB0.trans (hB3.mono (by omega))
        have hB13 : Below w.heap.size w w3 := hB1.trans (hBw3.mono hB1.size)
        have HPC : Hid (PCells w3 pb rb R) := hPC
        have HRD : Hid (RdR w3 (some ⟨rb, 0, none⟩) R (prows nm N R (1 + K))) := hRd
        obtain ⟨p0, p1, p2, p3⟩ := hPC
        have e1 : ((R : Int) != (R : Int)) = false := by simp
        obtain ⟨m, hm⟩ : ∃ m, m = 1 + K := ⟨_, rfl⟩
        rw [← hm] at HRD
        have m1 : m ≤ 1 + K := by omega
        have m2 : 1 + K ≤ m := by omega
        have em : ((m : Int) != 1 + (K : Int)) = false := by simp only [bne_eq_false_iff_eq]; omega
        clear hm hRd hB3 hB0 hsz0
        go_wp2_with fail
        go_loop [11] (fun r' => ∃ r : Nat, r ≤ R ∧ r' = .int .i64 r) (fun r' => R - (intOf r').toNat)
        case atStart => exact ⟨0, Nat.zero_le _, rfl⟩
        case round =>
          obtain ⟨r, hr, rfl⟩ := hrel
          by_cases hrR : r < R
          · exfalso; omega
          · obtain rfl : R = r := by omega
            have hNx := next_any pb 0 (some ⟨rb, 0, none⟩) none none R R 0 0 0 0 (prows nm N R m) [] [] w3 hR (by omega) (by omega) (fun j => Nat.le_trans (prows_len nm N R m j) (by omega)) (fun j => by simp) (plc_of HPC.out HRD.out)
            go_wp2_with fail
            refine hNx.mono ?_
            clear hNx
            rintro e w4 ⟨nb, ra', rc', la', lc', sa', sc', rfl, hnb, hPl, hla, hsa, hB4⟩
            obtain rfl : sa' = none := hsa.2 rfl
            have hBw : Below w.heap.size w w4 := hB13.trans (hB4.mono hB13.size)
            have z0 : w4.cell? ⟨nb, 0, none⟩ = some (.int .u64 1) := hPl.c0
            have z1 := hPl.c1
            have z3 := hPl.c3
            clear hPl hla hsa hnb
            have eR : ((R : Int) == 0) = true := beq_iff_eq.2 (by omega)
            go_wp2
            go_ret
            exact ⟨rfl, hBw⟩
  · have d9 : ((N : Int) == 0) = false := beq_eq_false_iff_ne.2 (by omega)
    have hN0' : 0 < N := by omega
    clear hN0
    go_wp2_with fail
    refine (copy_any a N c ss w hN1 hnc HNIL.out HR.out).mono ?_
    rintro e w1 ⟨a1, c1, rfl, hc1, hz1, hi1, hR1, hB1⟩
    obtain ⟨nm, hnm⟩ : ∃ nm : Nat → ByteArray, nm = fun t => ss.getD t ByteArray.empty := ⟨_, rfl⟩
    have HR1 : Hid (RdS w1 a1 N ss) := hR1
    have HNM : Hid (nm = fun t => ss.getD t ByteArray.empty) := hnm
    clear hR1 hnm hz1 hi1
    go_wp2_with (first | (at_make; refine wpList_make_full _ rfl _ _ 40 rfl w1.heap.size 42 i42 _ 3 Try.underlying40 hi42 hz42 hs42 _ _ _ _ N rfl rfl rfl rfl (by rw [hb42]; omega) (by unfold maxLen; omega) (Nat.le_refl _) ?_))
    intro w2 hown2 hgrow2
    have hB2 : Below w1.heap.size w1 w2 := (Below.refl _ _).grown hgrow2 (Nat.le_refl _) (by simp)
    have hN2' := make_nodes N w2 _ _ nm hown2
    obtain ⟨L, hL⟩ : ∃ L, L = w1.heap.size := ⟨_, rfl⟩
    rw [← hL] at hB2 hN2' ⊢
    have HL : Hid (L = w1.heap.size) := hL
    clear hL hgrow2 hown2
    go_wp2
    go_loopw [8] (fun i' wr => ∃ i : Nat, i ≤ N ∧ i' = .int .i64 i ∧ Below L w1 wr ∧ Nodes wr L N i nm) (fun i' _ => N - (intOf i').toNat)
    case atStart => exact ⟨0, Nat.zero_le _, rfl, hB2, hN2'⟩
    case round =>
      clear hB2 hN2'
      obtain ⟨i, hi, rfl, hB, hO⟩ := hrel
      have hLw := hO.lt
      by_cases hlt : i < N
      · obtain ⟨b1, o1, e, hcs⟩ := HR1.out.2 (by omega)
        subst e
        have g1 : wr.cell? ⟨b1, o1 + i, none⟩ = some (.string (nm i)) := by rw [HNM.out]; exact cell_later (by rw [← HL.out]; exact hB) (hcs i hlt)
        have hO2 := hO.step hlt (.string ⟨#[]⟩) (.string ⟨#[]⟩)
        obtain ⟨⟨v0, o0⟩, r0⟩ := hO.some (i * 3) (by omega)
        obtain ⟨⟨v1, o1'⟩, r1⟩ := hO.some (i * 3 + 1) (by omega)
        obtain ⟨⟨v2, o2⟩, r2⟩ := hO.some (i * 3 + 2) (by omega)
        generalize nm i = s at g1 hO2
        have HS2 : Hid (Nodes (((wr.setCell ⟨L, i * 3, none⟩ (.string s)).setCell ⟨L, i * 3 + 1, none⟩ (.string ⟨#[]⟩)).setCell ⟨L, i * 3 + 2, none⟩ (.string ⟨#[]⟩)) L N (i + 1) nm) := hO2
        have hlt' : (i : Int) < N := by omega
        clear hO hO2 hcs
        go_wp2
        go_roundw
        case rel => exact ⟨i + 1, by omega, by go_num, ((hB.setCell (Nat.le_refl _) _).setCell (Nat.le_refl _) _).setCell (Nat.le_refl _) _, HS2.out⟩
        case measure => simp [intOf]; omega
      · obtain rfl : N = i := by omega
        obtain ⟨W0, hW0⟩ : ∃ W0, W0 = wr.alloc (Obj.cells #[.int .i64 R, .int .i64 K, .slice (some ⟨L, 0, none⟩) N N] 45) := ⟨_, rfl⟩
        obtain ⟨cb, hcb⟩ : ∃ cb, cb = wr.heap.size := ⟨_, rfl⟩
        have hB0 : Below L w1 W0 := by rw [hW0]; exact hB.alloc (by omega) _
        have hP : Calls Try.prog 22 #[.pointer (some ⟨cb, 0, none⟩)] W0 _ := place_any cb R K L N N nm W0 hR hK (fun h => by omega) (by omega) (by rw [hW0, hcb]; simp) (by rw [hW0, hcb]; simp) (by rw [hW0, hcb]; simp)
          (fun t ht => by rw [hW0, World.cell?_alloc_past _ _ _ hLw]; exact hO.cell t ht ht)
        have hsz0 : L < W0.heap.size := by rw [hW0]; simp; omega
        clear hO
        go_wp2_with fail
        rw [← hW0, ← hcb]
        refine hP.mono ?_
        clear hP hW0 hcb hB hLw
        rintro e w3 ⟨pb, rb, rfl, hPC, hRd, hB3⟩
        have hBw3 : Below w1.heap.size w1 w3 := by rw [← HL.out]; exact hB0.trans (hB3.mono (by omega))
        have hB13 : Below w.heap.size w w3 := hB1.trans (hBw3.mono hB1.size)
        have HPC : Hid (PCells w3 pb rb R) := hPC
        have HRD : Hid (RdR w3 (some ⟨rb, 0, none⟩) R (prows nm N R (1 + K))) := hRd
        obtain ⟨p0, p1, p2, p3⟩ := hPC
        have e1 : ((R : Int) != (R : Int)) = false := by simp
        obtain ⟨m, hm⟩ : ∃ m, m = 1 + K := ⟨_, rfl⟩
        rw [← hm] at HRD
        have m1 : m ≤ 1 + K := by omega
        have m2 : 1 + K ≤ m := by omega
        have em : ((m : Int) != 1 + (K : Int)) = false := by simp only [bne_eq_false_iff_eq]; omega
        clear hm hRd hB3 hB0 hsz0
        go_wp2_with fail
        go_loop [11] (fun r' => ∃ r : Nat, r ≤ R ∧ r' = .int .i64 r) (fun r' => R - (intOf r').toNat)
        case atStart => exact ⟨0, Nat.zero_le _, rfl⟩
        case round =>
          obtain ⟨r, hr, rfl⟩ := hrel
          by_cases hrR : r < R
          · exfalso; omega
          · obtain rfl : R = r := by omega
            have hNx := next_any pb 0 (some ⟨rb, 0, none⟩) none none R R 0 0 0 0 (prows nm N R m) [] [] w3 hR (by omega) (by omega) (fun j => Nat.le_trans (prows_len nm N R m j) (by omega)) (fun j => by simp) (plc_of HPC.out HRD.out)
            go_wp2_with fail
            refine hNx.mono ?_
            clear hNx
            rintro e w4 ⟨nb, ra', rc', la', lc', sa', sc', rfl, hnb, hPl, hla, hsa, hB4⟩
            obtain rfl : sa' = none := hsa.2 rfl
            have hBw : Below w.heap.size w w4 := hB13.trans (hB4.mono hB13.size)
            have z0 : w4.cell? ⟨nb, 0, none⟩ = some (.int .u64 1) := hPl.c0
            have z1 := hPl.c1
            have z3 := hPl.c3
            clear hPl hla hsa hnb
            have eR : ((R : Int) == 0) = true := beq_iff_eq.2 (by omega)
            go_wp2
            go_ret
            exact ⟨rfl, hBw⟩
end Go.Proofs.Qxb6600025a
