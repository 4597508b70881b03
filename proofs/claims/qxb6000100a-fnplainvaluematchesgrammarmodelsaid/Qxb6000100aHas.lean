import Derived.Test.Qxb6000100aSegs
import Derived.Test.Qxb6000100aVal
import Derived.WalkSmall
namespace Go.Proofs.Qxb6000100a
set_option linter.unusedVariables false
set_option linter.unusedSimpArgs false
open Go.RowKit

/-- The Go string s spells the numbers L. -/
def Spells (s : ByteArray) (L : List Int) : Prop := L.length = s.size ∧ ∀ k (h : k < s.size), ((s[k]'h).toNat : Int) = L.getD k 0

theorem hasAt_iff (zs : List Int) (i : Nat) (L : List Int) (h : i + L.length ≤ zs.length) : HasAt zs i L ↔ ∀ k, k < L.length → zs.getD (i + k) 0 = L.getD k 0 := by
  unfold HasAt
  constructor
  · intro h k hk
    rw [← h]
    simp [List.getD, hk]
  · intro h'
    apply List.ext_getElem (by rw [List.length_take, List.length_drop]; omega)
    intro k h1 h2
    have := h' k h2
    simpa [List.getD, show i + k < zs.length by omega, h2] using this

set_option maxHeartbeats 400000 in
theorem has_short (a : Option Addr) (len cap i : Nat) (s : ByteArray) (w : World) (hi : i ≤ len) (hl : len ≤ 1048576) (h : ¬ i + s.size ≤ len) (hs : s.size ≤ 1000) :
    Calls Try.prog 19 #[.slice a len cap, .int .i64 i, .string s] w fun e w' => e = .returned (.bool false) ∧ Below w.heap.size w w' := by
  go_enter Try.func19, Try.ntmps19
  go_wp2
  go_ret
  exact ⟨rfl, Below.refl _ _⟩

set_option maxHeartbeats 400000 in
theorem has_walk (b off len cap i : Nat) (s : ByteArray) (L zs : List Int) (w : World) (hz : zs.length = len) (hl : len ≤ 1048576) (h : i + s.size ≤ len) (hs : s.size ≤ 1000) (hc : Bytes w b off zs) (hB : b < w.heap.size) (hsp : Spells s L) :
    Calls Try.prog 19 #[.slice (some ⟨b, off, none⟩) len cap, .int .i64 i, .string s] w fun e w' => Below w.heap.size w w' ∧ ((HasAt zs i L ∧ e = .returned (.bool true)) ∨ (¬ HasAt zs i L ∧ e = .returned (.bool false))) := by
  have HC : Hid (Bytes w b off zs) := hc
  have HZ : Hid (zs.length = len) := hz
  have HS : Hid (Spells s L) := hsp
  clear hc hz hsp
  go_enter Try.func19, Try.ntmps19
  go_wp2
  go_loopw [7] (fun k' wr => ∃ k : Nat, k ≤ s.size ∧ k' = .int .i64 k ∧ Below w.heap.size w wr ∧ Hid (∀ t, t < k → zs.getD (i + t) 0 = L.getD t 0)) (fun k' _ => s.size - (intOf k').toNat)
  case atStart => exact ⟨0, Nat.zero_le _, rfl, Below.refl _ _, fun t ht => by omega⟩
  case round =>
    obtain ⟨k, hk, rfl, hBr, HA⟩ := hrel
    by_cases hlt : k < s.size
    · have ck : wr.cell? ⟨b, off + (i + k), none⟩ = some (.int .u8 (zs.getD (i + k) 0)) := HC.out.later hBr hB (i + k) (by rw [HZ.out]; omega)
      have hsk := HS.out.2 k hlt
      have hlt1 : (i : Int) + k < len := by omega
      have hlt2 : (k : Int) < s.size := by omega
      have HE : Hid (zs.getD (i + k) 0 = L.getD k 0 → ∀ t, t < k + 1 → zs.getD (i + t) 0 = L.getD t 0) := by
        intro e t ht
        by_cases h' : t < k
        · exact HA.out t h'
        · obtain rfl : t = k := by omega
          exact e
      have HF : Hid (HasAt zs i L → zs.getD (i + k) 0 = L.getD k 0) := fun hh => (hasAt_iff zs i L (by rw [HS.out.1, HZ.out]; exact h)).1 hh k (by rw [HS.out.1]; exact hlt)
      rw [← hsk] at HE HF
      clear hsk
      generalize zs.getD (i + k) 0 = v at ck HE HF
      by_cases hv : v = ((s[k]'hlt).toNat : Int)
      · have hne : (v != ((s[k]'hlt).toNat : Int)) = false := by simp [hv]
        have HV : Hid (v = ((s[k]'hlt).toNat : Int)) := hv
        clear hv
        go_wp2
        go_quiet (fail)
        go_wp2
        go_roundw
        case rel => exact ⟨k + 1, by omega, by go_num, below_drewN hBr _, HE.out HV.out⟩
        case measure => simp [intOf]; omega
      · have hne : (v != ((s[k]'hlt).toNat : Int)) = true := by simp [hv]
        have HV : Hid (¬ v = ((s[k]'hlt).toNat : Int)) := hv
        clear hv
        go_wp2
        go_quiet (fail)
        go_wp2
        go_ret
        exact ⟨below_drewN hBr _, .inr ⟨fun hh => HV.out (HF.out hh), rfl⟩⟩
    · go_wp2
      go_ret
      refine ⟨hBr, .inl ⟨(hasAt_iff zs i L (by rw [HS.out.1, HZ.out]; exact h)).2 (fun t ht => HA.out t (by have := HS.out.1; omega)), rfl⟩⟩
end Go.Proofs.Qxb6000100a
