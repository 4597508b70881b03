import Derived.Test.Qxb6000100aClone
import Derived.WalkSmall
namespace Go.Proofs.Qxb6000100a
set_option linter.unusedVariables false
set_option linter.unusedSimpArgs false
open Go.RowKit

set_option maxHeartbeats 400000 in
theorem same_empty (a a' : Option Addr) (c c' : Nat) (w : World) :
    Calls Try.prog 11 #[.slice a 0 c, .slice a' 0 c'] w fun e w' => e = .returned (.bool true) ∧ Below w.heap.size w w' := by
  go_enter Try.func11, Try.ntmps11
  go_wp2
  go_loop [5] (fun i => i = .int .i64 0) (fun _ => 0)
  case atStart => exact rfl
  case round =>
    subst hrel
    go_wp2
    go_ret
    exact ⟨rfl, Below.refl _ _⟩

set_option maxHeartbeats 400000 in
theorem same_row (b off c b' off' c' n : Nat) (zs : List Int) (w : World) (hz : zs.length = n) (hl : n ≤ 1048576) (h1 : Bytes w b off zs) (h2 : Bytes w b' off' zs) (hb : b < w.heap.size) (hb' : b' < w.heap.size) :
    Calls Try.prog 11 #[.slice (some ⟨b, off, none⟩) n c, .slice (some ⟨b', off', none⟩) n c'] w fun e w' => e = .returned (.bool true) ∧ Below w.heap.size w w' := by
  go_enter Try.func11, Try.ntmps11
  go_wp2
  go_loopw [5] (fun i wr => ∃ k : Nat, k ≤ n ∧ i = .int .i64 k ∧ Below w.heap.size w wr) (fun i _ => n - (intOf i).toNat)
  case atStart => exact ⟨0, Nat.zero_le _, rfl, Below.refl _ _⟩
  case round =>
    obtain ⟨k, hk, rfl, hBr⟩ := hrel
    by_cases hlt : k < n
    · have g1 : wr.cell? ⟨b, off + k, none⟩ = some (.int .u8 (zs.getD k 0)) := (hBr.cell (by exact hb)).trans (h1 k (by omega))
      have g2 : wr.cell? ⟨b', off' + k, none⟩ = some (.int .u8 (zs.getD k 0)) := (hBr.cell (by exact hb')).trans (h2 k (by omega))
      generalize zs.getD k 0 = v at g1 g2
      have hlt' : (k : Int) < (n : Int) := by omega
      clear h1 h2
      go_wp2
      go_quiet (fail)
      go_wp2
      go_roundw
      case rel => exact ⟨k + 1, by omega, by go_num, below_drewN hBr _⟩
      case measure => simp [intOf]; omega
    · go_wp2
      go_ret
      exact ⟨rfl, hBr⟩
end Go.Proofs.Qxb6000100a
