import Derived.WalkKit
import Derived.WalkSpells
import Derived.Laws.BytesArg
import Derived.Lib.ItoaNum
namespace Go.Proofs.Qxb6617318aDoor
open Go.RowKit
set_option linter.unusedVariables false

/-! ### A row of n bytes, told by a function -/
def bArr (n : Nat) (f : Nat → Int) : Array Value := ((List.range n).map fun j => Value.int .u8 (f j)).toArray
theorem bArr_size (n : Nat) (f : Nat → Int) : (bArr n f).size = n := by simp [bArr]
theorem bArr_get {n : Nat} {f : Nat → Int} {j : Nat} (h : j < n) : (bArr n f)[j]? = some (.int .u8 (f j)) := by
  simp [bArr, h]
theorem bArr_congr {n : Nat} {f g : Nat → Int} (h : ∀ j, j < n → f j = g j) : bArr n f = bArr n g := by
  unfold bArr
  congr 1
  refine List.map_congr_left fun j hj => ?_
  rw [h j (List.mem_range.1 hj)]
theorem bArr_set {n : Nat} {f : Nat → Int} {k : Nat} {v : Int} : (bArr n f).setIfInBounds k (.int .u8 v) = bArr n (fun j => if j = k then v else f j) := by
  apply Array.ext_getElem?
  intro j
  by_cases hj : j < n
  · rw [Array.getElem?_setIfInBounds, bArr_get hj, bArr_get hj, bArr_size]
    by_cases e : k = j
    · subst e; simp [hj]
    · have e' : ¬ j = k := fun h => e h.symm
      simp [e, e']
  · rw [Array.getElem?_eq_none (by simp [bArr_size]; omega), Array.getElem?_eq_none (by rw [bArr_size]; omega)]

/-! ### Digits -/
theorem nd_lt {u k : Nat} (h : 0 < u / 10 ^ k) : k < Lib.nDigits u := by
  apply Classical.byContradiction
  intro hc
  have h1 := Lib.lt_pow_nDigits u
  have h2 : 10 ^ Lib.nDigits u ≤ 10 ^ k := Nat.pow_le_pow_right (by omega) (by omega)
  rw [Nat.div_eq_of_lt (by omega)] at h
  omega
theorem nd_le : ∀ (k u : Nat), 1 ≤ k → u < 10 ^ k → Lib.nDigits u ≤ k
  | 0, u, h, _ => by omega
  | 1, u, _, h => by rw [Lib.nDigits_small (by simpa using h)]; omega
  | k + 2, u, _, h => by
    by_cases hs : u < 10
    · rw [Lib.nDigits_small hs]; omega
    · rw [Lib.nDigits_big hs]
      rw [Nat.pow_succ] at h
      have := nd_le (k + 1) (u / 10) (by omega) (by omega)
      omega
theorem nd_20 {u : Nat} (h : u < 18446744073709551616) : Lib.nDigits u ≤ 20 := nd_le 20 u (by omega) (by omega)
/-- The digit at place j (from the right), as a byte's number. -/
def dgI (u j : Nat) : Int := 48 + ((u / 10 ^ j : Nat) : Int) % 10
theorem dgI_bd (u j : Nat) : 48 ≤ dgI u j ∧ dgI u j ≤ 57 := by unfold dgI; omega
/-- The array 'rev' behind k digits. -/
def revF (u k : Nat) : Nat → Int := fun j => if j < k then dgI u j else 0
def outF (u k i : Nat) : Nat → Int := fun j => if j < i then dgI u (k - 1 - j) else 0
theorem strOf_digits (u : Nat) : strOfNums ((List.range (Lib.nDigits u)).map fun j => dgI u (Lib.nDigits u - 1 - j)) = ⟨(Lib.decDigits u).toArray⟩ := by
  unfold strOfNums
  congr 2
  rw [Lib.decDigits_eq, List.map_map]
  refine List.map_congr_left fun j hj => ?_
  simp only [Function.comp, dgI, Lib.dg]
  congr 1
end Go.Proofs.Qxb6617318aDoor
