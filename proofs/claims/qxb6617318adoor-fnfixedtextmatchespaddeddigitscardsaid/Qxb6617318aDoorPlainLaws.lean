import Derived.Test.Qxb6617318aDoorPlain
namespace Go.Proofs.Qxb6617318aDoor

/-! ### Ten times the number at one more place -/
theorem frac_tenfold (u p : Nat) : frac (u * 10) (p + 1) = frac u p ++ [48] := by
  unfold frac
  rw [List.range_succ, List.map_append]
  congr 1
  · refine List.map_congr_left fun t ht => ?_
    have ht' := List.mem_range.1 ht
    rw [show p + 1 - 1 - t = (p - 1 - t) + 1 by omega, Lib.dg_succ, Nat.mul_div_cancel _ (by omega)]
  · simp [Lib.dg]
theorem quot_tenfold (u p : Nat) : u * 10 / 10 ^ (p + 1) = u / 10 ^ p := by
  rw [Nat.pow_succ, Nat.mul_div_mul_right _ _ (by omega)]
theorem fixed_tenfold (n : Int) (p : Nat) : fixed (n * 10) (p + 1) = fixed n p ++ (if p = 0 then [46, 48] else [48]) := by
  unfold fixed fixedU
  have h1 : sgn (n * 10) = sgn n := by
    unfold sgn
    by_cases h : n < 0
    · rw [if_pos h, if_pos (by omega)]
    · rw [if_neg h, if_neg (by omega)]
  have h2 : (n * 10).natAbs = n.natAbs * 10 := by omega
  rw [h1, h2, quot_tenfold, frac_tenfold, if_neg (by omega)]
  by_cases h : p = 0
  · subst h
    simp [frac]
  · rw [if_neg h, if_neg h]
    simp

theorem fixed_length (n : Int) (p : Nat) (h0 : -9223372036854775808 ≤ n) (h1 : n ≤ 9223372036854775807) (hp : p ≤ 19) : (fixed n p).length ≤ 30 := by
  have h := nd_quot n.natAbs p (by omega) hp
  rw [← Lib.decDigits_length] at h
  have hs : (sgn n).length ≤ 1 := by unfold sgn; split <;> simp
  have ht : (if p = 0 then [] else 46 :: frac n.natAbs p : List UInt8).length ≤ p + 1 := by
    split
    · simp
    · simp [frac_length]
  unfold fixed fixedU
  rw [List.length_append, List.length_append]
  omega

/-! ### The sign -/
theorem fixed_nonneg {n : Int} (h : 0 ≤ n) (p : Nat) : fixed n p = fixedU n.natAbs p := by
  unfold fixed sgn
  rw [if_neg (by omega)]
  rfl
theorem fixed_neg {n : Int} (h : 0 < n) (p : Nat) : fixed (-n) p = 45 :: fixed n p := by
  have e := fixed_nonneg (n := n) (by omega) p
  rw [e]
  unfold fixed sgn
  rw [if_pos (by omega), Int.natAbs_neg]
  rfl
theorem dg_bd (u j : Nat) : 48 ≤ (Lib.dg u j).toNat ∧ (Lib.dg u j).toNat ≤ 57 := by
  unfold Lib.dg
  rw [UInt8.toNat_ofNat']
  omega
theorem fixed_head {n : Int} (h : 0 ≤ n) (p : Nat) : ∃ c r, fixed n p = c :: r ∧ 48 ≤ c.toNat ∧ c.toNat ≤ 57 := by
  rw [fixed_nonneg h]
  unfold fixedU
  have h1 := Lib.nDigits_pos (n.natAbs / 10 ^ p)
  obtain ⟨k, hk⟩ : ∃ k, Lib.nDigits (n.natAbs / 10 ^ p) = k + 1 := ⟨Lib.nDigits (n.natAbs / 10 ^ p) - 1, by omega⟩
  rw [Lib.decDigits_eq, hk, List.range_succ_eq_map, List.map_cons, List.cons_append]
  exact ⟨_, _, rfl, dg_bd _ _⟩

/-! ### The model's text: the digits from the first to the last, a dot ahead of the last p -/
/-- What one turn at place i lays. -/
def turn (u p i : Nat) : List UInt8 := if i + 1 = p then [46, Lib.dg u i] else [Lib.dg u i]
/-- The turns at the places width-1 down to width-m. -/
def turns (u p width : Nat) : Nat → List UInt8
  | 0 => []
  | m + 1 => turns u p width m ++ turn u p (width - 1 - m)
theorem turns_high (u p k m : Nat) (h : m ≤ k) : turns u p (p + k) m = (List.range m).map fun t => Lib.dg u (p + k - 1 - t) := by
  induction m with
  | zero => rfl
  | succ m ih =>
    rw [turns, ih (by omega), List.range_succ, List.map_append, turn, if_neg (by omega)]
    rfl
theorem turns_low (u p k m : Nat) (hp : 0 < p) (h : m + 1 ≤ p) : turns u p (p + k) (k + (m + 1)) = turns u p (p + k) k ++ 46 :: (List.range (m + 1)).map fun t => Lib.dg u (p - 1 - t) := by
  induction m with
  | zero =>
    show turns u p (p + k) (k + 0) ++ _ = _
    rw [Nat.add_zero, turn, if_pos (by omega), show p + k - 1 - k = p - 1 by omega]
    rfl
  | succ m ih =>
    rw [show k + (m + 1 + 1) = (k + (m + 1)) + 1 by omega, turns, ih (by omega), turn, if_neg (by omega), List.range_succ (n := m + 1), List.map_append, List.append_assoc, List.cons_append, show p + k - 1 - (k + (m + 1)) = p - 1 - (m + 1) by omega]
    rfl
theorem dg_quot (u p j : Nat) : Lib.dg (u / 10 ^ p) j = Lib.dg u (p + j) := by
  unfold Lib.dg
  rw [Nat.div_div_eq_div_mul, ← Nat.pow_add]
theorem turns_all (u p k : Nat) (hk : k = Lib.nDigits (u / 10 ^ p)) : turns u p (p + k) (p + k) = fixedU u p := by
  have hd : Lib.decDigits (u / 10 ^ p) = (List.range k).map fun t => Lib.dg u (p + k - 1 - t) := by
    rw [Lib.decDigits_eq, ← hk]
    refine List.map_congr_left fun t ht => ?_
    have ht' := List.mem_range.1 ht
    rw [dg_quot]
    congr 1
    omega
  unfold fixedU
  rw [hd]
  by_cases h : p = 0
  · subst h
    rw [if_pos rfl, Nat.zero_add, List.append_nil]
    have := turns_high u 0 k k (Nat.le_refl _)
    rw [Nat.zero_add] at this
    exact this
  · rw [if_neg h]
    obtain ⟨m, hm⟩ : ∃ m, p = m + 1 := ⟨p - 1, by omega⟩
    have h1 := turns_low u p k m (by omega) (by omega)
    have h2 := turns_high u p k k (Nat.le_refl _)
    rw [show k + (m + 1) = p + k by omega, h2, ← hm] at h1
    exact h1
/-- How wide the model makes it. -/
theorem width_is (u p : Nat) : (if Lib.nDigits u < p + 1 then p + 1 else Lib.nDigits u) = p + Lib.nDigits (u / 10 ^ p) := by
  by_cases h : Lib.nDigits u < p + 1
  · rw [if_pos h]
    have h1 := Lib.lt_pow_nDigits u
    have h2 : 10 ^ Lib.nDigits u ≤ 10 ^ p := Nat.pow_le_pow_right (by omega) (by omega)
    rw [Nat.div_eq_of_lt (by omega), Lib.nDigits_small (by omega)]
  · rw [if_neg h]
    obtain ⟨d, hd⟩ : ∃ d, Lib.nDigits u = p + 1 + d := ⟨Lib.nDigits u - (p + 1), by omega⟩
    have h1 := Lib.lt_pow_nDigits u
    have h3 : 10 ^ (p + d) ≤ u ∨ u < 10 ^ (p + d) := by omega
    rcases h3 with h3 | h3
    · have := Lib.nDigits_unique d (u / 10 ^ p) (by
        rw [Nat.le_div_iff_mul_le (Nat.pow_pos (by omega)), ← Nat.pow_add, Nat.add_comm d p]; exact h3) (by
        rw [Nat.div_lt_iff_lt_mul (Nat.pow_pos (by omega)), ← Nat.pow_add, show d + 1 + p = p + 1 + d by omega, ← hd]; exact h1)
      omega
    · by_cases h0 : p + d = 0
      · have hp : p = 0 := by omega
        subst hp
        simp
      · have := nd_le (p + d) u (by omega) h3
        omega
end Go.Proofs.Qxb6617318aDoor
