import Derived.Test.Qxb6617318aDoorRows
import Derived.WalkKit
import Derived.WalkSpells
import Derived.ProofKit
import Derived.OpenShut
import Derived.ShutString
namespace Go.Proofs.Qxb6617318aDoor
open Go.ChangeShapes Go.WideShapes Go.ChangeAt Go.RowKit
set_option linter.unusedVariables false

/-- 10^k for k up to 19, as an Int, behind a plain name. -/
def p10 (k : Nat) : Int := ((10 ^ k : Nat) : Int)
theorem p10_succ (k : Nat) : p10 (k + 1) = p10 k * 10 := by unfold p10; rw [Nat.pow_succ]; simp
theorem p10_zero : p10 0 = 1 := rfl
theorem p10_le (k : Nat) (h : k ≤ 19) : 1 ≤ p10 k ∧ p10 k ≤ 10000000000000000000 := by
  unfold p10
  have h1 : 10 ^ k ≤ 10 ^ 19 := Nat.pow_le_pow_right (by omega) h
  have h2 : 0 < 10 ^ k := Nat.pow_pos (by omega)
  omega

set_option maxHeartbeats 400000 in
theorem pow10_calls (n : Nat) (hn : n ≤ 19) (w : World) :
    Calls Tryd.prog 10 #[.int .i64 n] w fun e w' => e = .returned (.int .u64 (p10 n)) ∧ w' = w := by
  go_enter Tryd.func10, Tryd.ntmps10
  go_wp2
  go_loop [3, 5] (fun p i => ∃ k : Nat, k ≤ n ∧ i = .int .i64 k ∧ p = .int .u64 (p10 k)) (fun _ i => n - (intOf i).toNat)
  case atStart => exact ⟨0, Nat.zero_le _, rfl, rfl⟩
  case round =>
    obtain ⟨k, hk, rfl, rfl⟩ := hrel
    have hp := p10_le k (by omega)
    by_cases hlt : k < n
    · have hp1 := p10_le (k + 1) (by omega)
      rw [p10_succ] at hp1
      go_wp2
      go_round
      case rel => exact ⟨k + 1, by omega, by go_num, by rw [p10_succ]⟩
      case measure => simp [intOf]; omega
    · go_wp2
      go_ret
      obtain rfl : k = n := by omega
      exact ⟨rfl, rfl⟩
end Go.Proofs.Qxb6617318aDoor
