import Derived.Test.Qxb6600025aEpo
import Derived.Test.Qxb6600025aBytes16
import Derived.Test.Qxb6600025aBak
namespace Go.Proofs.Qxb6600025a
set_option linter.unusedVariables false
set_option linter.unusedSimpArgs false
open Go.RowKit

theorem wrap_two (ep : Int) : IntKind.u64.wrap (IntKind.u64.wrap (ep + 1) + 1) = IntKind.u64.wrap (ep + 2) := by
  simp [IntKind.wrap, IntKind.signed, IntKind.bits]
  omega

def LostOk (w4 : World) (pb : Nat) (lost : List ByteArray) : Prop :=
  ∀ W, Below w4.heap.size w4 W → ∀ s, Calls Try.prog 18 #[.pointer (some ⟨pb, 0, none⟩), .string s] W fun e w' => e = .returned (.bool (memB lost s)) ∧ W = w'
def StaleOk (w4 : World) (pb : Nat) (stale : List (List ByteArray)) (rn : Nat) : Prop :=
  ∀ W, Below w4.heap.size w4 W → ∀ s r, r < rn → Calls Try.prog 19 #[.pointer (some ⟨pb, 0, none⟩), .string s, .int .i64 (r : Nat)] W fun e w' => e = .returned (.bool (memB (stale.getD r []) s)) ∧ W = w'
def BacksOk (w4 : World) (pb : Nat) (rows : List (List ByteArray)) (lost : List ByteArray) (rn : Nat) : Prop :=
  ∀ W, Below w4.heap.size w4 W → ∀ r, r < rn → Calls Try.prog 17 #[.pointer (some ⟨pb, 0, none⟩), .int .i64 (r : Nat)] W fun e w' => ∃ a' m c', e = .returned (.slice a' m c') ∧ m ≤ 1048576 ∧ RdS w' a' m (backs lost (rows.getD r [])) ∧ Below W.heap.size W w'

section
variable {w4 : World} {pb : Nat} {ep : Int} {ra : Option Addr} {rn rc : Nat} {rows : List (List ByteArray)} {la : Option Addr} {ln lc : Nat} {lost : List ByteArray} {sa : Option Addr} {sn sc : Nat} {stale : List (List ByteArray)}
theorem LostOk.of (h : Plc w4 pb ep ra rn rc rows la ln lc lost sa sn sc stale) (hn : ln ≤ 1048576) : LostOk w4 pb lost :=
  fun W hB s => lost_any pb la ln lc lost s W hn (h.later hB).c2 (h.later hB).rl
theorem StaleOk.of (h : Plc w4 pb ep ra rn rc rows la ln lc lost sa sn sc stale) (hn : sn ≤ 1048576) (hb : ∀ j, (stale.getD j []).length ≤ 1048576) (hrn : rn ≤ 1048576) (hx : ∀ r, r < rn → sa ≠ none → r < sn) : StaleOk w4 pb stale rn :=
  fun W hB s r hr => stale_any pb sa sn sc r stale s W hn hb h.snil (hx r hr) (by omega) (h.later hB).c3 (h.later hB).rs
theorem BacksOk.of (h : Plc w4 pb ep ra rn rc rows la ln lc lost sa sn sc stale) (hrn : rn ≤ 1048576) (hn : ln ≤ 1048576) (hb : ∀ j, (rows.getD j []).length ≤ 1048576) (h1 : ∀ j, j < rn → 1 ≤ (rows.getD j []).length) : BacksOk w4 pb rows lost rn :=
  fun W hB r hr => backups_any pb ra la rn rc ln lc r rows lost W hrn hn hb hr (h1 r hr) (h.later hB).c1 (h.later hB).c2 (h.later hB).rr (h.later hB).rl
end

set_option maxRecDepth 100000 in
set_option maxHeartbeats 3200000 in
theorem ans_any (ep : Int) (ra la sa : Option Addr) (rn rc ln lc sn sc : Nat) (rows stale : List (List ByteArray)) (lost : List ByteArray) (w : World)
    (hrn : rn ≤ maxLen) (hln : ln ≤ maxLen) (hsn : sn ≤ maxLen) (hrc : rn ≤ rc) (hlc : ln ≤ lc) (hsc : sn ≤ sc) (hrz : ra = none → rc = 0) (hlz : la = none → lc = 0) (hsz : sa = none → sc = 0)
    (hR : RdR w ra rn rows) (hL : RdS w la ln lost) (hS : RdR w sa sn stale)
    (zr : ∀ j, Short (rows.getD j []) ∧ (rows.getD j []).length ≤ maxLen) (zl : Short lost) (zs : ∀ j, Short (stale.getD j []) ∧ (stale.getD j []).length ≤ maxLen) :
    Calls Try.prog 5 #[.int .u64 ep, .slice ra rn rc, .slice la ln lc, .slice sa sn sc] w fun e w' => e = .returned (.bool true) ∧ Below w.heap.size w w' := by
  have q23 : ∀ (w : World) (a : Option Addr) (n c n' c' : Nat), (binOp .eql 23 (.slice a n c) (.slice none n' c')).run Try.prog w = .ok (.bool a.isNone) w := fun w a n c n' c' => Lib.run_eql_slice_nil w _ _ a n c n' c' Try.underlying23
  have q23n : ∀ (w : World) (a : Option Addr) (n c n' c' : Nat), (binOp .neq 23 (.slice a n c) (.slice none n' c')).run Try.prog w = .ok (.bool (!a.isNone)) w := fun w a n c n' c' => run_neq_slice_nil_any w _ _ a n c n' c' Try.underlying23
  have h8 := bytes16 ep ra la sa rn rc ln lc sn sc rows stale lost w hrn hln hsn hR hL hS zr zl zs
  have HR : Hid (RdR w ra rn rows) := hR
  have HL : Hid (RdS w la ln lost) := hL
  have HS : Hid (RdR w sa sn stale) := hS
  have ZR : Hid (∀ j, Short (rows.getD j []) ∧ (rows.getD j []).length ≤ maxLen) := zr
  have ZL : Hid (Short lost) := zl
  have ZS : Hid (∀ j, Short (stale.getD j []) ∧ (stale.getD j []).length ≤ maxLen) := zs
  have HZ : Hid ((ra = none → rc = 0) ∧ (la = none → lc = 0) ∧ (sa = none → sc = 0)) := ⟨hrz, hlz, hsz⟩
  clear hR hL hS zr zl zs hrz hlz hsz
  unfold maxLen at hrn hln hsn
  go_enter Try.func5, Try.ntmps5
  go_wp2_with fail
  refine h8.mono ?_
  clear h8
  rintro e w' ⟨⟨rfl, b1, b2, b3, b4, b5⟩ | rfl, rfl⟩
  case inr =>
    go_wp2
    go_ret
    exact ⟨rfl, Below.refl _ _⟩
  have HB2 : Hid (∀ j, (rows.getD j []).length ≤ 1048576) := b2
  have HB5 : Hid (∀ j, (stale.getD j []).length ≤ 1048576) := b5
  clear b2 b5
  by_cases c1 : 65536 < rn
  · have d1 : decide ((65536 : Int) < rn) = true := decide_eq_true (by omega)
    go_wp2
    go_ret
    exact ⟨rfl, Below.refl _ _⟩
  have d1 : decide ((65536 : Int) < rn) = false := decide_eq_false (by omega)
  by_cases c2 : 65536 < ln
  · have d2 : decide ((65536 : Int) < ln) = true := decide_eq_true (by omega)
    go_wp2
    go_ret
    exact ⟨rfl, Below.refl _ _⟩
  have d2 : decide ((65536 : Int) < ln) = false := decide_eq_false (by omega)
  by_cases c3 : 65536 < sn
  · have d3 : decide ((65536 : Int) < sn) = true := decide_eq_true (by omega)
    go_wp2
    go_ret
    exact ⟨rfl, Below.refl _ _⟩
  have d3 : decide ((65536 : Int) < sn) = false := decide_eq_false (by omega)
  have h9 := toobig_any ra la sa rn rc ln lc sn sc rows stale lost w b1 b3 b4 HB2.out HB5.out HR.out HL.out HS.out (fun j => (ZR.out j).1) ZL.out (fun j => (ZS.out j).1)
  go_wp2_with fail
  refine h9.mono ?_
  clear h9
  rintro e w' ⟨rfl | rfl, rfl⟩
  · go_wp2
    go_ret
    exact ⟨rfl, Below.refl _ _⟩
  by_cases c4 : 4096 < ln
  · have d4 : decide ((4096 : Int) < ln) = true := decide_eq_true (by omega)
    go_wp2
    go_ret
    exact ⟨rfl, Below.refl _ _⟩
  have d4 : decide ((4096 : Int) < ln) = false := decide_eq_false (by omega)
  go_wp2
  go_loop [9] (fun i => ∃ k : Nat, k ≤ sn ∧ i = .int .i64 k) (fun i => sn - (intOf i).toNat)
  case atStart => exact ⟨0, Nat.zero_le _, rfl⟩
  case round =>
    obtain ⟨k, hk, rfl⟩ := hrel
    by_cases hlt : k < sn
    · obtain ⟨b, off, e, hc⟩ := HS.out.2 (by omega)
      subst e
      obtain ⟨a', n', c', g1, _, _, _⟩ := hc k hlt
      have hlt' : (k : Int) < sn := by omega
      clear hc
      by_cases h4 : 4096 < n'
      · have d5 : decide ((4096 : Int) < n') = true := decide_eq_true (by omega)
        go_wp2
        go_ret
        exact ⟨rfl, Below.refl _ _⟩
      · have d5 : decide ((4096 : Int) < n') = false := decide_eq_false (by omega)
        go_wp2
        go_round
        case rel => exact ⟨k + 1, by omega, by go_num⟩
        case measure => simp [intOf]; omega
    · clear hk
      go_wp2
      go_loop [10] (fun i => ∃ k : Nat, k ≤ rn ∧ i = .int .i64 k ∧ Hid (∀ j, j < k → 1 ≤ (rows.getD j []).length)) (fun i => rn - (intOf i).toNat)
      case atStart => exact ⟨0, Nat.zero_le _, rfl, fun j h => absurd h (by omega)⟩
      case round =>
        clear hlt
        obtain ⟨k2, hk, rfl, HP⟩ := hrel
        by_cases hlt : k2 < rn
        · obtain ⟨b, off, e, hc⟩ := HR.out.2 (by omega)
          subst e
          obtain ⟨a', n', c', g1, _, _, g4⟩ := hc k2 hlt
          have hlt' : (k2 : Int) < rn := by omega
          have HG : Hid ((rows.getD k2 []).length = n') := g4.1
          clear hc g4
          by_cases h4 : n' = 0
          · have d5 : ((n' : Int) == 0) = true := beq_iff_eq.2 (by omega)
            clear h4
            go_wp2
            go_ret
            exact ⟨rfl, Below.refl _ _⟩
          · have d5 : ((n' : Int) == 0) = false := beq_eq_false_iff_ne.2 (by omega)
            have h5 : 1 ≤ n' := by omega
            clear h4
            go_wp2
            go_round
            case rel =>
              refine ⟨k2 + 1, by omega, by go_num, ?_⟩
              intro j hj
              by_cases hjk : j < k2
              · exact HP.out j hjk
              · obtain rfl : j = k2 := by omega
                rw [HG.out]
                exact h5
            case measure => simp [intOf]; omega
        · have HP1 : Hid (∀ j, j < rn → 1 ≤ (rows.getD j []).length) := fun j hj => HP.out j (by omega)
          have hcase : (65536 < sn ∨ (sa.isNone = false ∧ ((sn : Int) != rn) = true)) ∨ ((sa.isNone = true ∨ (sa.isNone = false ∧ ((sn : Int) != rn) = false)) ∧ Hid (sa = none ∨ sn = rn)) := by
            cases sa with
            | none => exact .inr ⟨.inl rfl, .inl rfl⟩
            | some x =>
              by_cases h : sn = rn
              · exact .inr ⟨.inr ⟨rfl, by rw [h]; simp⟩, .inr h⟩
              · exact .inl (.inr ⟨rfl, by rw [bne_iff_ne]; omega⟩)
          rcases hcase with (hbad | ⟨e5, d5⟩) | ⟨hgo, HSN⟩
          · omega
          · clear hk
            go_wp2
            go_ret
            exact ⟨rfl, Below.refl _ _⟩
          clear hk HP
          have hc := copyR_any ra rn rc rows w b1 HB2.out hrc HZ.out.1 HR.out
          rcases hgo with e5 | ⟨e5, d5⟩
          all_goals
            go_wp2_with fail
            refine hc.mono ?_
            clear hc hlt
            rintro e w1 ⟨ra1, rc1, rfl, rx1, rx2, rx3, rx4, hB1⟩
            have HR1 : Hid (RdR w1 ra1 rn rows) := rx4
            clear rx2 rx3 rx4
            have hc := copy_any la ln lc lost w1 b3 hlc HZ.out.2.1 (HL.out.later hB1)
            go_wp2_with fail
            refine hc.mono ?_
            clear hc
            rintro e w2 ⟨la1, lc1, rfl, lx1, lx2, lx3, lx4, hB2⟩
            have HL2 : Hid (RdS w2 la1 ln lost) := lx4
            have HLZ : Hid (la1 = none → lc1 = 0) := lx2
            clear lx2 lx3 lx4
            have hc := copyR_any sa sn sc stale w2 b4 HB5.out hsc HZ.out.2.2 ((HS.out.later hB1).later hB2)
            go_wp2_with fail
            refine hc.mono ?_
            clear hc
            rintro e w3 ⟨sa1, sc1, rfl, sx1, sx2, sx3, sx4, hB3⟩
            have HS3 : Hid (RdR w3 sa1 sn stale) := sx4
            have HSZ : Hid (sa1 = none → sc1 = 0) := sx2
            have HSX : Hid (sa1 = none ↔ sa = none) := sx3
            clear sx2 sx3 sx4
            have hBw3 : Below w.heap.size w w3 := (hB1.trans (hB2.mono hB1.size)).trans (hB3.mono (Nat.le_trans hB1.size hB2.size))
            obtain ⟨W0, hW0⟩ : ∃ W0, W0 = w3.alloc (Obj.cells #[.int .u64 ep, .slice ra1 rn rc1, .slice la1 ln lc1, .slice sa1 sn sc1] 31) := ⟨_, rfl⟩
            obtain ⟨pb, hpb⟩ : ∃ pb, pb = w3.heap.size := ⟨_, rfl⟩
            have hB30 : Below w3.heap.size w3 W0 := by rw [hW0]; exact (Below.refl _ _).alloc (Nat.le_refl _) _
            have hB0 : Below w.heap.size w W0 := hBw3.trans (hB30.mono hBw3.size)
            have hPl : Plc W0 pb ep ra1 rn rc1 rows la1 ln lc1 lost sa1 sn sc1 stale :=
              ⟨by rw [hW0, hpb]; simp, by rw [hW0, hpb]; simp, by rw [hW0, hpb]; simp, by rw [hW0, hpb]; simp, ((HR1.out.later hB2).later hB3).later hB30, (HL2.out.later hB3).later hB30, HS3.out.later hB30, lx1, HLZ.out, fun e => by have := HSZ.out e; omega⟩
            have hN := next_any pb ep ra1 la1 sa1 rn rc1 ln lc1 sn sc1 rows stale lost W0 (by omega) (by omega) (by omega) HB2.out HB5.out hPl
            have HPL : Hid (Plc W0 pb ep ra1 rn rc1 rows la1 ln lc1 lost sa1 sn sc1 stale) := hPl
            clear hPl
            go_wp2_with fail
            rw [← hW0, ← hpb]
            refine hN.mono ?_
            clear hN hW0 hpb hB30 hBw3 hB1 hB2 hB3
            rintro e w4 ⟨nb, ra2, rc2, la2, lc2, sa2, sc2, rfl, hnb, hP2, hl2, hs2, hB4, _⟩
            have hPl4 := HPL.out.later hB4
            have hBw4 : Below w.heap.size w w4 := hB0.trans (hB4.mono hB0.size)
            have hx1 : ∀ r, r < rn → sa1 ≠ none → r < sn := fun r hr h => by
              rcases HSN.out with h' | h'
              · exact absurd (HSX.out.2 h') h
              · omega
            have hx2 : ∀ r, r < rn → sa2 ≠ none → r < sn := fun r hr h => by
              have h0 : sn ≠ 0 := fun h0 => h (hs2.2 h0)
              rcases HSN.out with h' | h'
              · have := HZ.out.2.2 h'
                omega
              · omega
            have LP : LostOk w4 pb lost := LostOk.of hPl4 b3
            have LN : LostOk w4 nb lost := LostOk.of hP2 b3
            have SP : StaleOk w4 pb stale rn := StaleOk.of hPl4 b4 HB5.out b1 hx1
            have SN : StaleOk w4 nb stale rn := StaleOk.of hP2 b4 HB5.out b1 hx2
            have BP : BacksOk w4 pb rows lost rn := BacksOk.of hPl4 b1 b3 HB2.out HP1.out
            have BN : BacksOk w4 nb rows lost rn := BacksOk.of hP2 b1 b3 HB2.out HP1.out
            have HRR : Hid (RdR w4 ra1 rn rows) := hPl4.rr
            have HLL : Hid (RdS w4 la1 ln lost) := hPl4.rl
            have HSS : Hid (RdR w4 sa1 sn stale) := hPl4.rs
            have HP2 : Hid (Plc w4 nb (IntKind.u64.wrap (ep + 1)) ra2 rn rc2 rows la2 ln lc2 lost sa2 sn sc2 stale) := hP2
            clear hx1 hx2 hP2 hl2 hs2 hPl4 hB4 hB0 hnb
            go_wp2
            go_loopw [13] (fun i wr => ∃ k : Nat, k ≤ rn ∧ i = .int .i64 k ∧ Below w4.heap.size w4 wr) (fun i _ => rn - (intOf i).toNat)
            case atStart => exact ⟨0, Nat.zero_le _, rfl, Below.refl _ _⟩
            case round =>
              obtain ⟨k3, hk3, rfl, hBr⟩ := hrel
              by_cases hlt3 : k3 < rn
              · have h17 := BP wr hBr k3 hlt3
                have hlt3' : (k3 : Int) < rn := by omega
                go_wp2_with fail
                refine h17.mono ?_
                clear h17
                rintro e w5 ⟨a5, m5, c5, rfl, hm5, hr5, hB5⟩
                have hBr5 : Below w4.heap.size w4 w5 := hBr.trans (hB5.mono hBr.size)
                have h17 := BN w5 hBr5 k3 hlt3
                have HR5 : Hid (RdS w5 a5 m5 (backs lost (rows.getD k3 []))) := hr5
                clear hr5
                go_wp2_with fail
                refine h17.mono ?_
                clear h17
                rintro e w6 ⟨a6, m6, c6, rfl, hm6, hr6, hB6⟩
                have hBr6 : Below w4.heap.size w4 w6 := hBr5.trans (hB6.mono hBr5.size)
                obtain rfl : m5 = m6 := HR5.out.1.symm.trans hr6.1
                have h14 := same_text a5 a6 m5 c5 c6 _ w6 hm5 (HR5.out.later hB6) hr6
                clear hr6 HR5
                go_wp2_with fail
                refine h14.mono ?_
                clear h14
                rintro e w7 ⟨rfl, q7, hq7⟩
                have hB7 := below_of_drewN hq7
                have hBr7 : Below w4.heap.size w4 w7 := hBr6.trans (hB7.mono hBr6.size)
                obtain ⟨b, off, e, hc⟩ := HRR.out.2 (by omega)
                subst e
                obtain ⟨a', n', c', g1', _, _, g4⟩ := hc k3 hlt3
                have g1 : w7.cell? ⟨b, off + k3, none⟩ = some (.slice a' n' c') := cell_later hBr7 g1'
                have hn' : n' ≤ 1048576 := by have := HB2.out k3; have := g4.1; omega
                have HG4 : Hid (RdS w4 a' n' (rows.getD k3 [])) := g4
                clear hq7 hB7 hB6 hB5 hBr hBr5 hBr6 hc g1' g4
                go_wp2
                go_loop [15] (fun j => ∃ k : Nat, k ≤ n' ∧ j = .int .i64 k) (fun j => n' - (intOf j).toNat)
                case atStart => exact ⟨0, Nat.zero_le _, rfl⟩
                case round =>
                  clear g1
                  obtain ⟨k4, hk4, rfl⟩ := hrel
                  by_cases hlt4 : k4 < n'
                  · obtain ⟨b4', off4, e, hc4⟩ := HG4.out.2 (by omega)
                    subst e
                    have g4 := cell_later hBr7 (hc4 k4 hlt4)
                    generalize (rows.getD k3 []).getD k4 ByteArray.empty = nm at g4
                    have hlt4' : (k4 : Int) < n' := by omega
                    have hx := LP w7 hBr7 nm
                    clear hc4
                    go_wp2_with fail
                    refine hx.mono ?_
                    clear hx
                    rintro e w' ⟨rfl, rfl⟩
                    have hx := LN w7 hBr7 nm
                    go_wp2_with fail
                    refine hx.mono ?_
                    clear hx
                    rintro e w' ⟨rfl, rfl⟩
                    have e1 : (memB lost nm != memB lost nm) = false := by simp
                    have hx := SP w7 hBr7 nm k3 hlt3
                    go_wp2_with fail
                    refine hx.mono ?_
                    clear hx
                    rintro e w' ⟨rfl, rfl⟩
                    have hx := SN w7 hBr7 nm k3 hlt3
                    have e2 : (memB (stale.getD k3 []) nm != memB (stale.getD k3 []) nm) = false := by simp
                    go_wp2_with fail
                    refine hx.mono ?_
                    clear hx
                    rintro e w' ⟨rfl, rfl⟩
                    go_wp2
                    go_round
                    case rel => exact ⟨k4 + 1, by omega, by go_num⟩
                    case measure => simp [intOf]; omega
                  · by_cases hlt5 : k3 < sn
                    · have hlt5' : (k3 : Int) < sn := by omega
                      obtain ⟨b5', off5, e, hc⟩ := HSS.out.2 (by omega)
                      subst e
                      obtain ⟨a', ns, c', g1', _, _, g4⟩ := hc k3 hlt5
                      have g1 : w7.cell? ⟨b5', off5 + k3, none⟩ = some (.slice a' ns c') := cell_later hBr7 g1'
                      have hns : ns ≤ 1048576 := by have := HB5.out k3; have := g4.1; omega
                      have HG5 : Hid (RdS w4 a' ns (stale.getD k3 [])) := g4
                      clear hc g1' g4
                      go_wp2
                      go_loop [18] (fun j => ∃ k : Nat, k ≤ ns ∧ j = .int .i64 k) (fun j => ns - (intOf j).toNat)
                      case atStart => exact ⟨0, Nat.zero_le _, rfl⟩
                      case round =>
                        clear g1
                        obtain ⟨k5, hk5, rfl⟩ := hrel
                        by_cases hlt6 : k5 < ns
                        · obtain ⟨b6', off6, e, hc5⟩ := HG5.out.2 (by omega)
                          subst e
                          have g4 := cell_later hBr7 (hc5 k5 hlt6)
                          have HM := memB_self (stale.getD k3 []) k5 (by rw [HG5.out.1]; exact hlt6)
                          generalize (stale.getD k3 []).getD k5 ByteArray.empty = nm at g4 HM
                          have hlt6' : (k5 : Int) < ns := by omega
                          have hx := SN w7 hBr7 nm k3 hlt3
                          rw [HM] at hx
                          clear HM hc5
                          go_wp2_with fail
                          refine hx.mono ?_
                          clear hx
                          rintro e w' ⟨rfl, rfl⟩
                          go_wp2
                          go_round
                          case rel => exact ⟨k5 + 1, by omega, by go_num⟩
                          case measure => simp [intOf]; omega
                        · go_wp2
                          go_roundw
                          case rel => exact ⟨k3 + 1, by omega, by go_num, hBr7⟩
                          case measure => simp [intOf]; omega
                    · have hlt5' : ¬ (k3 : Int) < sn := by omega
                      go_wp2
                      go_roundw
                      case rel => exact ⟨k3 + 1, by omega, by go_num, hBr7⟩
                      case measure => simp [intOf]; omega
              · go_wp2
                go_loop [19] (fun j => ∃ k : Nat, k ≤ ln ∧ j = .int .i64 k) (fun j => ln - (intOf j).toNat)
                case atStart => exact ⟨0, Nat.zero_le _, rfl⟩
                case round =>
                  obtain ⟨k6, hk6, rfl⟩ := hrel
                  by_cases hlt6 : k6 < ln
                  · obtain ⟨b6', off6, e, hc5⟩ := HLL.out.2 (by omega)
                    subst e
                    have g4 := cell_later hBr (hc5 k6 hlt6)
                    have HM := memB_self lost k6 (by rw [HLL.out.1]; exact hlt6)
                    generalize lost.getD k6 ByteArray.empty = nm at g4 HM
                    have hlt6' : (k6 : Int) < ln := by omega
                    have hx := LN wr hBr nm
                    rw [HM] at hx
                    clear HM hc5
                    go_wp2_with fail
                    refine hx.mono ?_
                    clear hx
                    rintro e w' ⟨rfl, rfl⟩
                    go_wp2
                    go_round
                    case rel => exact ⟨k6 + 1, by omega, by go_num⟩
                    case measure => simp [intOf]; omega
                  · have hx := next_any nb (IntKind.u64.wrap (ep + 1)) ra2 la2 sa2 rn rc2 ln lc2 sn sc2 rows stale lost wr (by omega) (by omega) (by omega) HB2.out HB5.out (HP2.out.later hBr)
                    go_wp2_with fail
                    refine hx.mono ?_
                    clear hx
                    rintro e w8 ⟨mb, ra3, rc3, la3, lc3, sa3, sc3, rfl, hmb, hP3, _, _, hB8, _⟩
                    have z0 := hP3.c0
                    have eu : (IntKind.u64.wrap (IntKind.u64.wrap (ep + 1) + 1) == IntKind.u64.wrap (ep + 2)) = true := by rw [wrap_two]; simp
                    have HBE : Hid (Below w.heap.size w w8) := (hBw4.trans (hBr.mono hBw4.size)).trans (hB8.mono (Nat.le_trans hBw4.size hBr.size))
                    clear hP3 hB8 hmb
                    go_wp2
                    go_ret
                    exact ⟨rfl, HBE.out⟩
end Go.Proofs.Qxb6600025a
