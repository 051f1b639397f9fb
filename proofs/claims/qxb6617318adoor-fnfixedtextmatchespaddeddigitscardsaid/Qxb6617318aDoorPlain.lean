import Derived.Lib.ItoaNum
import Derived.Test.Qxb6617318aDoorAux
namespace Go.Proofs.Qxb6617318aDoor

/-! ### The text of a fixed-point number, in plain words -/
/-- The p digits behind the dot. -/
def frac (u p : Nat) : List UInt8 := (List.range p).map fun t => Lib.dg u (p - 1 - t)
def sgn (n : Int) : List UInt8 := if n < 0 then [45] else []
/-- The text without its sign. -/
def fixedU (u p : Nat) : List UInt8 := Lib.decDigits (u / 10 ^ p) ++ (if p = 0 then [] else 46 :: frac u p)
def fixed (n : Int) (p : Nat) : List UInt8 := sgn n ++ fixedU n.natAbs p

theorem frac_length (u p : Nat) : (frac u p).length = p := by simp [frac]
/-- One digit more. -/
theorem frac_step (u p t : Nat) (h : t < p) : (frac u p).take (t + 1) = (frac u p).take t ++ [Lib.dg u (p - 1 - t)] := by
  rw [List.take_succ_eq_append_getElem (by rw [frac_length]; exact h)]
  simp [frac]
/-- What the loop's round reckons is the digit. -/
theorem frac_digit (u p t : Nat) (h : t < p) : (u % 10 ^ p) / (10 ^ (p - t) / 10) % 10 = u / 10 ^ (p - 1 - t) % 10 := by
  obtain ⟨j, hj⟩ : ∃ j, p - t = j + 1 := ⟨p - t - 1, by omega⟩
  have hp : p = j + 1 + t := by omega
  rw [hj, Nat.pow_succ, Nat.mul_div_cancel _ (by omega), show p - 1 - t = j by omega, hp, Nat.add_assoc, Nat.pow_add, Nat.mod_mul_right_div_self, Nat.add_comm 1 t, Nat.pow_succ, Nat.mul_comm (10 ^ t) 10, Nat.mod_mul_right_mod]
theorem unit_pos (p t : Nat) (h : t < p) : 0 < 10 ^ (p - t) / 10 := by
  obtain ⟨j, hj⟩ : ∃ j, p - t = j + 1 := ⟨p - t - 1, by omega⟩
  rw [hj, Nat.pow_succ, Nat.mul_div_cancel _ (by omega)]
  exact Nat.pow_pos (by omega)
theorem unit_step (p t : Nat) (h : t < p) : 10 ^ (p - t) / 10 / 10 = 10 ^ (p - (t + 1)) / 10 := by
  obtain ⟨j, hj⟩ : ∃ j, p - t = j + 1 := ⟨p - t - 1, by omega⟩
  rw [hj, show p - (t + 1) = j by omega, Nat.pow_succ, Nat.mul_div_cancel _ (by omega)]
theorem unit_end (p : Nat) : 10 ^ (p - p) / 10 = 0 := by simp
theorem nd_quot (u p : Nat) (hu : u ≤ 9223372036854775808) (hp : p ≤ 19) : Lib.nDigits (u / 10 ^ p) + p ≤ 20 := by
  by_cases h : p = 19
  · subst h
    rw [Nat.div_eq_of_lt (by omega), Lib.nDigits_small (by omega)]
    omega
  · have h1 : 10 ^ p * 10 ^ (19 - p) = 10 ^ 19 := by rw [← Nat.pow_add]; congr 1; omega
    have h2 := nd_le (19 - p) (u / 10 ^ p) (by omega) (by
      rw [Nat.div_lt_iff_lt_mul (Nat.pow_pos (by omega)), Nat.mul_comm, h1]
      omega)
    omega
end Go.Proofs.Qxb6617318aDoor
