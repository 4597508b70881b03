import Derived.Test.Qxb6600025aNext
import Derived.Test.Qxb6600025aCopyR
import Derived.Test.Qxb6600025aSame
import Derived.Test.Qxb6600025aBytes8
import Derived.LaidEqlPtr
namespace Go.Proofs.Qxb6600025a
set_option linter.unusedVariables false
set_option linter.unusedSimpArgs false
open Go.RowKit

theorem below_of_drewN {w w' : World} {q : Nat} (h : w' = w.drewN q) : Below w.heap.size w w' := by rw [h]; exact below_drewN (Below.refl _ _) q

theorem Try.size31 : (Try.prog.info? 31).map (fun i => i.size) = some 4 := by kernel_rfl
theorem size31 : ∃ i, Try.prog.info? 31 = some i ∧ i.size = 4 := by
  obtain ⟨i, h1, h2⟩ := Option.map_eq_some_iff.1 Try.size31
  exact ⟨i, h1, h2⟩

set_option maxRecDepth 100000 in
set_option maxHeartbeats 1600000 in
theorem epo_any (ep : Int) (ra la sa : Option Addr) (rn rc ln lc sn sc : Nat) (rows stale : List (List ByteArray)) (lost : List ByteArray) (w : World)
    (hrn : rn ≤ maxLen) (hln : ln ≤ maxLen) (hsn : sn ≤ maxLen) (hrc : rn ≤ rc) (hlc : ln ≤ lc) (hsc : sn ≤ sc) (hrz : ra = none → rc = 0) (hlz : la = none → lc = 0) (hsz : sa = none → sc = 0)
    (hR : RdR w ra rn rows) (hL : RdS w la ln lost) (hS : RdR w sa sn stale)
    (zr : ∀ j, Short (rows.getD j []) ∧ (rows.getD j []).length ≤ maxLen) (zl : Short lost) (zs : ∀ j, Short (stale.getD j []) ∧ (stale.getD j []).length ≤ maxLen) :
    Calls Try.prog 3 #[.int .u64 ep, .slice ra rn rc, .slice la ln lc, .slice sa sn sc] w fun e w' => e = .returned (.bool true) ∧ Below w.heap.size w w' := by
  have q23 : ∀ (w : World) (a : Option Addr) (n c n' c' : Nat), (binOp .eql 23 (.slice a n c) (.slice none n' c')).run Try.prog w = .ok (.bool a.isNone) w := fun w a n c n' c' => Lib.run_eql_slice_nil w _ _ a n c n' c' Try.underlying23
  have q23n : ∀ (w : World) (a : Option Addr) (n c n' c' : Nat), (binOp .neq 23 (.slice a n c) (.slice none n' c')).run Try.prog w = .ok (.bool (!a.isNone)) w := fun w a n c n' c' => run_neq_slice_nil_any w _ _ a n c n' c' Try.underlying23
  have h8 := bytes8 ep ra la sa rn rc ln lc sn sc rows stale lost w hrn hln hsn hR hL hS zr zl zs
  have HR : Hid (RdR w ra rn rows) := hR
  have HL : Hid (RdS w la ln lost) := hL
  have HS : Hid (RdR w sa sn stale) := hS
  have ZR : Hid (∀ j, Short (rows.getD j []) ∧ (rows.getD j []).length ≤ maxLen) := zr
  have ZL : Hid (Short lost) := zl
  have ZS : Hid (∀ j, Short (stale.getD j []) ∧ (stale.getD j []).length ≤ maxLen) := zs
  have HZ : Hid ((ra = none → rc = 0) ∧ (la = none → lc = 0) ∧ (sa = none → sc = 0)) := ⟨hrz, hlz, hsz⟩
  clear hR hL hS zr zl zs hrz hlz hsz
  unfold maxLen at hrn hln hsn
  go_enter Try.func3, Try.ntmps3
  go_wp2_with fail
  refine h8.mono ?_
  clear h8
  rintro e w' ⟨⟨rfl, b1, b2, b3, b4, b5⟩ | rfl, rfl⟩
  case inr =>
    go_wp2
    go_ret
    exact ⟨rfl, Below.refl _ _⟩
  have HB2 : Hid (∀ j, (rows.getD j []).length ≤ 1048576) := b2
  have HB5 : Hid (∀ j, (stale.getD j []).length ≤ 1048576) := b5
  clear b2 b5
  by_cases c1 : 65536 < rn
  · have d1 : decide ((65536 : Int) < rn) = true := decide_eq_true (by omega)
    go_wp2
    go_ret
    exact ⟨rfl, Below.refl _ _⟩
  have d1 : decide ((65536 : Int) < rn) = false := decide_eq_false (by omega)
  by_cases c2 : 65536 < ln
  · have d2 : decide ((65536 : Int) < ln) = true := decide_eq_true (by omega)
    go_wp2
    go_ret
    exact ⟨rfl, Below.refl _ _⟩
  have d2 : decide ((65536 : Int) < ln) = false := decide_eq_false (by omega)
  by_cases c3 : 65536 < sn
  · have d3 : decide ((65536 : Int) < sn) = true := decide_eq_true (by omega)
    go_wp2
    go_ret
    exact ⟨rfl, Below.refl _ _⟩
  have d3 : decide ((65536 : Int) < sn) = false := decide_eq_false (by omega)
  have h9 := toobig_any ra la sa rn rc ln lc sn sc rows stale lost w b1 b3 b4 HB2.out HB5.out HR.out HL.out HS.out (fun j => (ZR.out j).1) ZL.out (fun j => (ZS.out j).1)
  go_wp2_with fail
  refine h9.mono ?_
  clear h9
  rintro e w' ⟨rfl | rfl, rfl⟩
  · go_wp2
    go_ret
    exact ⟨rfl, Below.refl _ _⟩
  have hc := copyR_any ra rn rc rows w b1 HB2.out hrc HZ.out.1 HR.out
  go_wp2_with fail
  refine hc.mono ?_
  clear hc
  rintro e w1 ⟨ra1, rc1, rfl, rx1, rx2, rx3, rx4, hB1⟩
  have HR1 : Hid (RdR w1 ra1 rn rows) := rx4
  clear rx2 rx3 rx4
  have hc := copy_any la ln lc lost w1 b3 hlc HZ.out.2.1 (HL.out.later hB1)
  go_wp2_with fail
  refine hc.mono ?_
  clear hc
  rintro e w2 ⟨la1, lc1, rfl, lx1, lx2, lx3, lx4, hB2⟩
  have HL2 : Hid (RdS w2 la1 ln lost) := lx4
  have HLZ : Hid (la1 = none → lc1 = 0) := lx2
  clear lx2 lx3 lx4
  have hc := copyR_any sa sn sc stale w2 b4 HB5.out hsc HZ.out.2.2 ((HS.out.later hB1).later hB2)
  go_wp2_with fail
  refine hc.mono ?_
  clear hc
  rintro e w3 ⟨sa1, sc1, rfl, sx1, sx2, sx3, sx4, hB3⟩
  have HS3 : Hid (RdR w3 sa1 sn stale) := sx4
  have HSZ : Hid (sa1 = none → sc1 = 0) := sx2
  clear sx2 sx3 sx4
  have hBw3 : Below w.heap.size w w3 := (hB1.trans (hB2.mono hB1.size)).trans (hB3.mono (Nat.le_trans hB1.size hB2.size))
  obtain ⟨W0, hW0⟩ : ∃ W0, W0 = w3.alloc (Obj.cells #[.int .u64 ep, .slice ra1 rn rc1, .slice la1 ln lc1, .slice sa1 sn sc1] 31) := ⟨_, rfl⟩
  obtain ⟨pb, hpb⟩ : ∃ pb, pb = w3.heap.size := ⟨_, rfl⟩
  have hB30 : Below w3.heap.size w3 W0 := by rw [hW0]; exact (Below.refl _ _).alloc (Nat.le_refl _) _
  have hB0 : Below w.heap.size w W0 := hBw3.trans (hB30.mono hBw3.size)
  have hPl : Plc W0 pb ep ra1 rn rc1 rows la1 ln lc1 lost sa1 sn sc1 stale :=
    ⟨by rw [hW0, hpb]; simp, by rw [hW0, hpb]; simp, by rw [hW0, hpb]; simp, by rw [hW0, hpb]; simp, ((HR1.out.later hB2).later hB3).later hB30, (HL2.out.later hB3).later hB30, HS3.out.later hB30, lx1, HLZ.out, fun e => by have := HSZ.out e; omega⟩
  have hpW : pb < W0.heap.size := by rw [hW0, hpb]; simp
  have hpk : ∃ cs, W0.heap[pb]? = some (.cells cs 31 (0, 0)) := ⟨_, by rw [hW0, hpb]; exact heap_alloc_new w3 _⟩
  have hN := next_any pb ep ra1 la1 sa1 rn rc1 ln lc1 sn sc1 rows stale lost W0 (by omega) (by omega) (by omega) HB2.out HB5.out hPl
  have HPL : Hid (Plc W0 pb ep ra1 rn rc1 rows la1 ln lc1 lost sa1 sn sc1 stale) := hPl
  clear hPl
  go_wp2_with fail
  rw [← hW0, ← hpb]
  refine hN.mono ?_
  clear hN hW0 hpb hB30 hBw3 hB1 hB2 hB3
  rintro e w4 ⟨nb, ra2, rc2, la2, lc2, sa2, sc2, rfl, hnb, hP2, hl2, hs2, hB4, cs4, hcs4⟩
  have hPl4 := HPL.out.later hB4
  have hptr : (binOp .eql 29 (.pointer (some ⟨nb, 0, none⟩)) (.pointer (some ⟨pb, 0, none⟩))).run Try.prog w4 = .ok (.bool false) w4 := by
    obtain ⟨csp, hcsp⟩ := hpk
    obtain ⟨i31, j1, j2⟩ := size31
    exact run_eql_ptr_other w4 Try.underlying29 j1 (by rw [j2]; decide) (by simp only [ne_eq, Addr.mk.injEq, and_true]; omega) hcs4 ((hB4.block pb hpW).trans hcsp)
  clear hpk hcs4
  obtain ⟨z0, z1, z2, z3, y1, y2, y3, _, _, _⟩ := hP2
  have hs1 := same_rows ra2 ra1 rn rc2 rc1 rows w4 b1 HB2.out y1 hPl4.rr
  have HT : Hid (∀ w', Below w4.heap.size w4 w' → _) := fun w' hB => same_text la2 la1 ln lc2 lc1 lost w' b3 (y2.later hB) (hPl4.rl.later hB)
  have HQ : Hid (∀ w', Below w4.heap.size w4 w' → _) := fun w' hB => same_rows sa2 sa1 sn sc2 sc1 stale w' b4 HB5.out (y3.later hB) (hPl4.rs.later hB)
  have HS2 : Hid (sa2 = none ↔ sn = 0) := hs2
  have hBw4 : Below w.heap.size w w4 := hB0.trans (hB4.mono hB0.size)
  have eu : (IntKind.u64.wrap (ep + 1) != IntKind.u64.wrap (ep + 1)) = false := by simp
  clear hl2 hs2 y1 y2 y3 hPl4 hB4
  go_wp2_with fail
  refine hs1.mono ?_
  clear hs1
  rintro e w5 ⟨rfl, q5, hq5⟩
  have hB5 := below_of_drewN hq5
  clear hq5
  have z2' : w5.cell? ⟨nb, 2, none⟩ = some (.slice la2 ln lc2) := cell_later hB5 z2
  have z3' : w5.cell? ⟨nb, 3, none⟩ = some (.slice sa2 sn sc2) := cell_later hB5 z3
  clear z0 z1 z2 z3 hptr
  go_wp2_with fail
  refine (HT.out w5 hB5).mono ?_
  rintro e w6 ⟨rfl, q6, hq6⟩
  have hB6 := below_of_drewN hq6
  clear hq6
  have z3 : w6.cell? ⟨nb, 3, none⟩ = some (.slice sa2 sn sc2) := cell_later hB6 z3'
  have hB46 : Below w4.heap.size w4 w6 := hB5.trans (hB6.mono hB5.size)
  have hBw6 : Below w.heap.size w w6 := hBw4.trans (hB46.mono hBw4.size)
  have HQ6 := HQ.out w6 hB46
  clear z2' z3' HQ HT hB5 hB6 hB46 hBw4
  by_cases h0 : sn = 0
  · have d4 : ((sn : Int) == 0) = true := beq_iff_eq.2 (by omega)
    obtain rfl : sa2 = none := HS2.out.2 h0
    clear h0
    go_wp2
    go_ret
    exact ⟨rfl, hBw6⟩
  · have d4 : ((sn : Int) == 0) = false := beq_eq_false_iff_ne.2 (by omega)
    cases sa2 with
    | none => exact absurd (HS2.out.1 rfl) h0
    | some x =>
      clear h0
      go_wp2_with fail
      refine HQ6.mono ?_
      clear HQ6
      rintro e w7 ⟨rfl, q7, hq7⟩
      have hB7 := below_of_drewN hq7
      clear hq7
      go_wp2
      go_ret
      exact ⟨rfl, hBw6.trans (hB7.mono hBw6.size)⟩
end Go.Proofs.Qxb6600025a
