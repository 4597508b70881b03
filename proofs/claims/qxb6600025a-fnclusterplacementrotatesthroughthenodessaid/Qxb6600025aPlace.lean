import Derived.Test.Qxb6600025aBase
namespace Go.Proofs.Qxb6600025a
set_option linter.unusedVariables false
set_option linter.unusedSimpArgs false
open Go.RowKit

theorem make_strings (m bk : Nat) (hm : m = 1 + bk) (hb : bk ≤ 65536) (W : World) :
    (Instr.makeSlice 24 (.int .i64 (1 + (bk : Int))) (.int .i64 (1 + (bk : Int)))).run Try.prog W = .ok (.slice (some ⟨W.heap.size, 0, none⟩) m m) (W.alloc (.cells (madeCells #[.string ⟨#[]⟩] m) 9)) := by
  obtain ⟨i9, h1, h2, h3, h4⟩ := info_parts Try.info9
  have := run_make (P := Try.prog) W 24 9 i9 _ Try.underlying24 h1 h2 .i64 .i64 (1 + (bk : Int)) (1 + (bk : Int)) (by omega) (Int.le_refl _) (by rw [h4]; omega) (by omega)
  rw [this, h3, Nat.mul_one, show (1 + (bk : Int)).toNat = m by omega]
  rfl

/-- The rows of the starting placement. -/
def prow (nm : Nat → ByteArray) (N m r : Nat) : List ByteArray := (List.range m).map fun i => nm ((r + i) % N)
def prows (nm : Nat → ByteArray) (N n m : Nat) : List (List ByteArray) := (List.range n).map fun r => prow nm N m r

/-- A row that the call made: a block of its own behind pb. -/
def RowAt (w : World) (v : Value) (pb m : Nat) (f : Nat → ByteArray) : Prop :=
  ∃ g, v = .slice (some ⟨g, 0, none⟩) m m ∧ pb < g ∧ g < w.heap.size ∧ ∀ i, i < m → w.cell? ⟨g, i, none⟩ = some (.string (f i))

theorem RowAt.kept {w w' : World} {v : Value} {pb m : Nat} {f : Nat → ByteArray} (h : RowAt w v pb m f) (hs : w.heap.size ≤ w'.heap.size) (hb : ∀ b, pb < b → b < w.heap.size → w'.heap[b]? = w.heap[b]?) : RowAt w' v pb m f := by
  obtain ⟨g, h1, h2, h3, h4⟩ := h
  exact ⟨g, h1, h2, by omega, fun i hi => (World.cell?_of_block (w := w) (a := ⟨g, i, none⟩) (hb g h2 h3)).trans (h4 i hi)⟩

/-- The new struct's cells. -/
structure PCells (w : World) (pb rb n : Nat) : Prop where
  p0 : w.cell? ⟨pb, 0, none⟩ = some (.int .u64 0)
  p1 : w.cell? ⟨pb, 1, none⟩ = some (.slice (some ⟨rb, 0, none⟩) n n)
  p2 : w.cell? ⟨pb, 2, none⟩ = some (.slice none 0 0)
  p3 : w.cell? ⟨pb, 3, none⟩ = some (.slice none 0 0)

theorem PCells.kept {w w' : World} {pb rb n : Nat} (h : PCells w pb rb n) (hb : w'.heap[pb]? = w.heap[pb]?) : PCells w' pb rb n :=
  ⟨(World.cell?_of_block (w := w) (a := ⟨pb, 0, none⟩) hb).trans h.p0, (World.cell?_of_block (w := w) (a := ⟨pb, 1, none⟩) hb).trans h.p1, (World.cell?_of_block (w := w) (a := ⟨pb, 2, none⟩) hb).trans h.p2, (World.cell?_of_block (w := w) (a := ⟨pb, 3, none⟩) hb).trans h.p3⟩

/-- What holds at the outer loop's head, k rows made. -/
structure Out (w wr : World) (nm : Nat → ByteArray) (N n m pb rb k : Nat) : Prop where
  below : Below rb w wr
  cells : PCells wr pb rb n
  lt : rb < pb
  rows : ∃ vs, wr.ownsRow rb 24 1 (.slice (some ⟨rb, 0, none⟩) n n) n vs ∧ ∀ j, j < k → RowAt wr (vs.getD j undef) pb m (fun i => nm ((j + i) % N))

theorem mid {wr W2 : World} {rb n k g m : Nat} {vs : List Value} (hR : wr.ownsRow rb 24 1 (.slice (some ⟨rb, 0, none⟩) n n) n vs) (hg : g = wr.heap.size) (hm : m ≤ maxLen)
    (hW : ((wr.setCell ⟨rb, k, none⟩ (Value.slice (some ⟨g, 0, none⟩) m m)).alloc (Obj.cells (madeCells #[Value.string { data := #[] }] m) 9)).drew = W2) :
    W2.heap.size = g + 1 ∧ Below rb wr W2 ∧ (∀ b, b < g → b ≠ rb → W2.heap[b]? = wr.heap[b]?) ∧ W2.ownsRow rb 24 1 (.slice (some ⟨rb, 0, none⟩) n n) n (vs.set k (.slice (some ⟨g, 0, none⟩) m m)) ∧
      W2.ownsRow g 9 1 (.slice (some ⟨g, 0, none⟩) m m) m (List.replicate m (.string ⟨#[]⟩)) := by
  subst hW
  obtain ⟨h1, h2⟩ := hR.stored k (.slice (some ⟨g, 0, none⟩) m m)
  generalize hV : wr.setCell ⟨rb, k, none⟩ (.slice (some ⟨g, 0, none⟩) m m) = V at h1 h2
  have hVs : V.heap.size = g := by rw [← hV, hg]; simp [World.setCell]
  refine ⟨?_, ?_, ?_, (h1.alloc _).drew, ?_⟩
  · show (V.alloc _).heap.size = _
    rw [← hVs]; simp
  · exact (((Below.refl rb wr).grown h2 (Nat.le_of_lt (owned_lt hR)) (by simp)).alloc (by rw [hVs, hg]; exact Nat.le_of_lt (owned_lt hR)) _).drew
  · intro b hb hne
    show (V.alloc _).heap[b]? = _
    rw [Below.heap_alloc V _ b (by omega)]
    exact h2.block b (by omega) (by simpa using hne)
  · have := World.ownsRow_lit (base := g) (e := 9) (size := 1) V (madeCells #[Value.string { data := #[] }] m) m (by omega) hm (by simp [madeCells])
    rw [hVs, made_strings] at this
    exact this.drew

theorem RdR_of_out {w wr : World} {nm : Nat → ByteArray} {N n m pb rb : Nat} (h : Out w wr nm N n m pb rb n) : RdR wr (some ⟨rb, 0, none⟩) n (prows nm N n m) := by
  refine ⟨by simp [prows], fun h0 => ⟨rb, 0, rfl, fun j hj => ?_⟩⟩
  obtain ⟨vs, h1, h2⟩ := h.rows
  obtain ⟨g, e1, e2, e3, e4⟩ := h2 j hj
  have hc := h1.cellAt j (by omega)
  have hv : vs[j]? = some (vs.getD j undef) := by
    have hl : j < vs.length := by have := h1.1; omega
    simp [List.getD, hl]
  rw [hv, e1] at hc
  refine ⟨_, m, m, by rw [Nat.zero_add]; exact hc, Nat.le_refl _, fun e => (by cases e), ?_⟩
  have hrow : (prows nm N n m).getD j [] = prow nm N m j := by simp [prows, List.getD, hj]
  rw [hrow]
  refine ⟨by simp [prow], fun _ => ⟨g, 0, rfl, fun i hi => ?_⟩⟩
  rw [Nat.zero_add, e4 i hi]
  simp [prow, List.getD, hi]

theorem fin {w wr W2 wx : World} {nm : Nat → ByteArray} {N n m pb rb k g : Nat} {vs : List Value} (h : Out w wr nm N n m pb rb k) (hk : k < n) (hvs : wr.ownsRow rb 24 1 (.slice (some ⟨rb, 0, none⟩) n n) n vs)
    (hrow : ∀ j, j < k → RowAt wr (vs.getD j undef) pb m (fun i => nm ((j + i) % N))) (hg : g = wr.heap.size) (hp : pb < g)
    (m1 : W2.heap.size = g + 1) (m2 : Below rb wr W2) (m3 : ∀ b, b < g → b ≠ rb → W2.heap[b]? = wr.heap[b]?) (m4 : W2.ownsRow rb 24 1 (.slice (some ⟨rb, 0, none⟩) n n) n (vs.set k (.slice (some ⟨g, 0, none⟩) m m)))
    (hx : Below g W2 wx) (hX : wx.ownsRow g 9 1 (.slice (some ⟨g, 0, none⟩) m m) m (filledV (fun i => .string (nm ((k + i) % N))) (.string ⟨#[]⟩) m m)) :
    Out w wx nm N n m pb rb (k + 1) := by
  have hlt := h.lt
  refine ⟨(h.below.trans m2).trans (hx.mono (by omega)), h.cells.kept ?_, h.lt, _, owned_below m4 hx (by omega), ?_⟩
  · rw [hx.block pb hp, m3 pb hp (by omega)]
  · intro j hj
    have hl : vs.length = n := by have := hvs.1; omega
    by_cases hjk : j < k
    · have e : (vs.set k (.slice (some ⟨g, 0, none⟩) m m)).getD j undef = vs.getD j undef := by
        simp [List.getD, List.getElem?_set, show k ≠ j by omega]
      rw [e]
      refine (hrow j hjk).kept (by have := hx.size; omega) (fun b h1 h2 => ?_)
      rw [hx.block b (by omega), m3 b (by omega) (by omega)]
    · obtain rfl : j = k := by omega
      have e : (vs.set j (.slice (some ⟨g, 0, none⟩) m m)).getD j undef = .slice (some ⟨g, 0, none⟩) m m := by
        simp [List.getD, List.getElem?_set, hl, hk]
      rw [e]
      refine ⟨g, rfl, hp, owned_lt hX, fun i hi => ?_⟩
      rw [hX.cellAt i (by omega), filledV_get _ _ _ _ _ hi hi]

set_option maxHeartbeats 1600000 in
theorem place_any (cb n bk nb N cN : Nat) (nm : Nat → ByteArray) (w : World) (hn : n ≤ 65536) (hbk : bk ≤ 65536) (hN : 0 < n → 0 < N) (hN2 : N ≤ 65536)
   (c0 : w.cell? ⟨cb, 0, none⟩ = some (.int .i64 n)) (c1 : w.cell? ⟨cb, 1, none⟩ = some (.int .i64 bk)) (c2 : w.cell? ⟨cb, 2, none⟩ = some (.slice (some ⟨nb, 0, none⟩) N cN))
   (hnodes : ∀ t, t < N → w.cell? ⟨nb, t * 3, none⟩ = some (.string (nm t))) :
    Calls Try.prog 22 #[.pointer (some ⟨cb, 0, none⟩)] w fun e w' => ∃ pb rb, e = .returned (.pointer (some ⟨pb, 0, none⟩)) ∧ PCells w' pb rb n ∧ RdR w' (some ⟨rb, 0, none⟩) n (prows nm N n (1 + bk)) ∧ Below w.heap.size w w' := by
  obtain ⟨i24, hi24, hz24, hs24, hb24⟩ := info_parts Try.info24
  obtain ⟨m, hm⟩ : ∃ m, m = 1 + bk := ⟨_, rfl⟩
  rw [← hm]
  have m1 : m ≤ 1 + bk := by omega
  have m2 : 1 + bk ≤ m := by omega
  have hmk := make_strings m bk hm hbk
  have HN : Hid (∀ t, t < N → w.cell? ⟨nb, t * 3, none⟩ = some (.string (nm t))) := hnodes
  have HN0 : Hid (0 < n → 0 < N) := hN
  clear hm hnodes hN
  go_enter Try.func22, Try.ntmps22
  go_wp2_with (first | (at_make; refine wpList_make_full _ rfl _ _ 23 rfl w.heap.size 24 i24 (.slice none 0 0) 1 Try.underlying23 hi24 hz24 hs24 _ _ _ _ n rfl rfl rfl rfl (by rw [hb24]; omega) (by unfold maxLen; omega) (Nat.le_refl _) ?_))
  intro w1 hown1 hgrow1
  have hB1 : Below w.heap.size w w1 := (Below.refl _ _).grown hgrow1 (Nat.le_refl _) (by simp)
  have hlt1 := owned_lt hown1
  clear hgrow1
  go_wp2
  obtain ⟨pb, hpb⟩ : ∃ pb, pb = w1.heap.size := ⟨_, rfl⟩
  obtain ⟨rb, hrb⟩ : ∃ rb, rb = w.heap.size := ⟨_, rfl⟩
  rw [← hrb] at hown1 hlt1 hB1
  rw [← hpb] at hlt1
  have hO : Out w (w1.alloc (Obj.cells #[Value.int IntKind.u64 0, Value.slice (some ⟨rb, 0, none⟩) n n, Value.slice none 0 0, Value.slice none 0 0] 31)) nm N n m pb rb 0 := by
    refine ⟨hB1.alloc (by omega) _, ⟨?_, ?_, ?_, ?_⟩, hlt1, _, hown1.alloc _, fun j hj => by omega⟩ <;> rw [hpb] <;> simp
  rw [← hpb, ← hrb]
  have HR : Hid (rb = w.heap.size) := hrb
  clear hpb hrb hown1 hB1 hlt1
  go_loopw [18] (fun k' wr => ∃ k : Nat, k ≤ n ∧ k' = .int .i64 k ∧ Out w wr nm N n m pb rb k) (fun k' _ => n - (intOf k').toNat)
  case atStart => exact ⟨0, Nat.zero_le _, rfl, hO⟩
  case round =>
    clear hO
    obtain ⟨k, hk, rfl, hO⟩ := hrel
    by_cases hlt : k < n
    · have hO' := hO
      obtain ⟨hb, ⟨p0, p1, p2, p3⟩, hrp, vs, hR, hrows⟩ := hO'
      have g1 := hR.frozenAt k
      have g2 := hR.cellAt k (by omega)
      obtain ⟨v3, hv3⟩ : ∃ v, vs[k]? = some v := ⟨_, List.getElem?_eq_getElem (by have := hR.1; omega)⟩
      rw [hv3] at g2
      have HO : Hid (Out w wr nm N n m pb rb k) := hO
      have HV : Hid (wr.ownsRow rb 24 1 (.slice (some ⟨rb, 0, none⟩) n n) n vs) := hR
      have HRW : Hid (∀ j, j < k → RowAt wr (vs.getD j undef) pb m (fun i => nm ((j + i) % N))) := hrows
      have q1 : wr.cell? ⟨cb, 1, none⟩ = some (.int .i64 bk) := cell_later (by rw [← HR.out]; exact hb) c1
      clear hv3 hR hO hrows p0 p2 p3
      have hkn : (k : Int) < n := by omega
      have s1 : pb < wr.heap.size := World.block_lt_of_cell? _ _ p1
      have s2 : rb < wr.heap.size := World.block_lt_of_cell? _ _ g2
      have s3 : cb < wr.heap.size := World.block_lt_of_cell? _ _ q1
      go_wp2
      go_region
      obtain ⟨wo, hwo⟩ : ∃ wo : World, wo = wr := ⟨_, rfl⟩
      obtain ⟨g, hg⟩ : ∃ g, g = wr.heap.size := ⟨_, rfl⟩
      rw [← hg]
      generalize hW2 : ((wr.setCell ⟨rb, k, none⟩ (Value.slice (some ⟨g, 0, none⟩) m m)).alloc (Obj.cells (madeCells #[Value.string { data := #[] }] m) 9)).drew = W2
      obtain ⟨d1, d2, d3, d4, d5⟩ := mid HV.out hg (by unfold maxLen; omega) hW2
      have hpg : pb < g := by omega
      have e3 : W2.cell? ⟨pb, 1, none⟩ = some (.slice (some ⟨rb, 0, none⟩) n n) := (World.cell?_of_block (w := wr) (a := ⟨pb, 1, none⟩) (d3 pb hpg (by omega))).trans p1
      have o2 : W2.cell? ⟨rb, k, none⟩ = some (.slice (some ⟨g, 0, none⟩) m m) := by
        have := d4.cellAt k (by omega)
        rw [this]
        have hl : vs.length = n := by have := HV.out.1; omega
        simp [List.getElem?_set, hl, hlt]
      have hbW : Below rb w W2 := hb.trans d2
      have HD : Hid (W2.heap.size = g + 1 ∧ Below rb wr W2 ∧ (∀ b, b < g → b ≠ rb → W2.heap[b]? = wr.heap[b]?) ∧ W2.ownsRow rb 24 1 (.slice (some ⟨rb, 0, none⟩) n n) n (vs.set k (.slice (some ⟨g, 0, none⟩) m m))) := ⟨d1, d2, d3, d4⟩
      have HG : Hid (g = wr.heap.size) := hg
      have hrg : rb < g := by omega
      rw [← hwo] at HD HG HO HV HRW
      clear hwo hW2 hg g1 g2 p1 q1 s1 s2 s3 d1 d2 d3 d4 hb
      go_wp2
      go_loopw [41] (fun k' wx => ∃ i : Nat, i ≤ m ∧ k' = .int .i64 i ∧ Below g W2 wx ∧ wx.ownsRow g 9 1 (.slice (some ⟨g, 0, none⟩) m m) m (filledV (fun i => .string (nm ((k + i) % N))) (.string ⟨#[]⟩) m i)) (fun k' _ => m - (intOf k').toNat)
      case atStart => exact ⟨0, Nat.zero_le _, rfl, Below.refl _ _, by rw [filledV_zero]; exact d5⟩
      case round =>
        clear d5
        obtain ⟨i, hi, rfl, hBx, hX⟩ := hrel
        by_cases hlt2 : i < m
        · have hbx : Below rb w wr := hbW.trans (hBx.mono (by omega))
          have hbx' : Below w.heap.size w wr := by rw [← HR.out]; exact hbx
          have f0 : wr.cell? ⟨cb, 2, none⟩ = some (.slice (some ⟨nb, 0, none⟩) N cN) := cell_later hbx' c2
          have f1 : wr.cell? ⟨pb, 1, none⟩ = some (.slice (some ⟨rb, 0, none⟩) n n) := (hBx.cell (by exact hpg)).trans e3
          have f2 : wr.cell? ⟨rb, k, none⟩ = some (.slice (some ⟨g, 0, none⟩) m m) := (hBx.cell (by exact hrg)).trans o2
          have hN0 : 0 < N := HN0.out (by omega)
          have hst := filledV_set (fun i => Value.string (nm ((k + i) % N))) (.string ⟨#[]⟩) m i
          obtain ⟨t, ht⟩ : ∃ t, t = (k + i) % N := ⟨_, rfl⟩
          have ht2 : t < N := by rw [ht]; exact Nat.mod_lt _ hN0
          have f4 : wr.cell? ⟨nb, t * 3, none⟩ = some (.string (nm t)) := cell_later hbx' (HN.out t ht2)
          have ht1 : ((k : Int) + (i : Int)) % (N : Int) = (t : Int) := by rw [ht]; simp
          have ht3 : (t : Int) < N := by omega
          have hN1 : 1 ≤ (N : Int) := by omega
          simp only [← ht] at hst
          clear ht
          generalize nm t = s at f4 hst
          have f5 := hX.frozenAt i
          have f6 := hX.cellAt i (by omega)
          obtain ⟨v4, hv4⟩ : ∃ v, (filledV (fun i => Value.string (nm ((k + i) % N))) (.string ⟨#[]⟩) m i)[i]? = some v := ⟨_, List.getElem?_eq_getElem (by rw [filledV_length]; exact hlt2)⟩
          rw [hv4] at f6
          have hin : (i : Int) < m := by omega
          have HX : Hid (World.ownsRow (wr.setCell ⟨g, i, none⟩ (.string s)) g 9 1 (.slice (some ⟨g, 0, none⟩) m m) m (filledV (fun i => .string (nm ((k + i) % N))) (.string ⟨#[]⟩) m (i + 1))) := by
            have := (hX.stored i (.string s)).1
            rwa [hst] at this
          clear hv4 hX hst hbx hbx'
          go_wp2
          go_region
          go_wp2
          go_roundw
          case rel => exact ⟨i + 1, by omega, by go_num, (hBx.setCell (Nat.le_refl _) _).drew, HX.out.drew⟩
          case measure => simp [intOf]; omega
        · obtain rfl : i = m := by omega
          have hF := fin HO.out hlt HV.out HRW.out HG.out hpg HD.out.1 HD.out.2.1 HD.out.2.2.1 HD.out.2.2.2 hBx hX
          clear hX hBx e3 o2
          go_wp2
          go_roundw
          case rel => exact ⟨k + 1, by omega, by go_num, hF⟩
          case measure => simp [intOf]; omega
    · obtain rfl : k = n := by omega
      go_wp2
      go_ret
      exact ⟨pb, rb, rfl, hO.cells, RdR_of_out hO, by have := hO.below; rw [HR.out] at this; exact this⟩
end Go.Proofs.Qxb6600025a
