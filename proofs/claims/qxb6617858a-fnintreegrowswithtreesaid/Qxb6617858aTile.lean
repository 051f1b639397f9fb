import Derived.Test.Qxb6617858aRows
import Derived.WalkKit
import Derived.WalkSpells
import Derived.WalkLawsBesides
import Derived.ProofKit
import Derived.Lib.Hide
namespace Go.Proofs.Qxb6617858a
open Go.ChangeShapes Go.WideShapes Go.ChangeAt Go.RowKit
set_option linter.unusedVariables false

/-! ### The plain functions -/
/-- How many hashes a level holds in a tree of size leaves. -/
def hs (level : Int) (size : Nat) : Nat := size / 256 ^ (min level.toNat 8)
/-- The width of tile n where its level holds h hashes; 0: it is not there. -/
def tw (h n : Nat) : Nat := min (h - 256 * n) 256
theorem hs_le (level : Int) (size : Nat) : hs level size ≤ size := Nat.div_le_self _ _
theorem hs_mid (level : Int) (size : Nat) (h0 : 0 ≤ level) (h8 : level ≤ 8) : (size : Int) / 2 ^ (8 * level).toNat = (hs level size : Int) := by
  obtain ⟨k, rfl⟩ := Int.eq_ofNat_of_zero_le h0
  unfold hs
  rw [Int.toNat_natCast, Nat.min_eq_left (by omega), show (8 * (k : Int)).toNat = 8 * k by omega, Int.natCast_ediv, Int.natCast_pow, Int.pow_mul]
  rfl
theorem hs_low (level : Int) (size : Nat) (h : level < 0) : hs level size = size := by
  unfold hs
  rw [show level.toNat = 0 by omega]
  simp
theorem hs_high (level : Int) (size : Nat) (h : 8 < level) (hz : size < 18446744073709551616) : hs level size = 0 := by
  unfold hs
  rw [Nat.min_eq_right (by omega)]
  exact Nat.div_eq_of_lt (by omega)

set_option maxHeartbeats 400000 in
theorem partial_calls (level : Int) (size h : Nat) (hz : size < 18446744073709551616) (hh : h = hs level size) (w : World) :
    Calls Try.prog 8 #[.int .i64 level, .int .u64 size] w fun e w' => e = .returned (.agg #[.int .i64 level, .int .u64 ((h : Int) / 256), .int .i64 ((h : Int) % 256)]) ∧ ∃ A, w' = w.alloc (.cells A 24) := by
  have hle := hs_le level size
  rw [← hh] at hle
  by_cases h0 : level < 0
  · rw [hs_low level size h0] at hh
    subst hh
    go_enter Try.func8, Try.ntmps8
    go_wp2
    exact bodyPost_ret (v := .agg #[.int .i64 level, .int .u64 ((h : Int) / 256), .int .i64 ((h : Int) % 256)]) (by simp [results, Try.results8, go_sem]) rfl ⟨rfl, _, rfl⟩
  by_cases h8 : 8 < level
  · rw [hs_high level size h8 hz] at hh
    subst hh
    go_enter Try.func8, Try.ntmps8
    go_wp2
    have ez : (size : Int) / 18446744073709551616 = 0 := by omega
    rw [ez]
    exact bodyPost_ret (v := .agg #[.int .i64 level, .int .u64 (0 / 256), .int .i64 (0 % 256)]) (by simp [results, Try.results8, go_sem]) rfl ⟨rfl, _, rfl⟩
  · have he := hs_mid level size (by omega) (by omega)
    rw [← hh] at he
    clear hh
    go_enter Try.func8, Try.ntmps8
    go_wp2
    exact bodyPost_ret (v := .agg #[.int .i64 level, .int .u64 ((h : Int) / 256), .int .i64 ((h : Int) % 256)]) (by simp [results, Try.results8, go_sem]) rfl ⟨rfl, _, rfl⟩

/-! ### InTree -/
theorem tw_full {h n : Nat} (hc : n < h / 256) : tw h n = 256 := by unfold tw; omega
theorem tw_part {h n : Nat} (hc : n = h / 256) : tw h n = h % 256 := by unfold tw; omega
theorem tw_none {h n : Nat} (hc : h / 256 < n) : tw h n = 0 := by unfold tw; omega

set_option maxHeartbeats 800000 in
theorem inTree_some (level : Int) (n size h x : Nat) (hz : size < 18446744073709551616) (hh : h = hs level size) (hx : x = tw h n) (hp : 0 < x) (w : World) :
    Calls Try.prog 6 #[.int .i64 level, .int .u64 n, .int .u64 size] w fun e w' => e = .returned (.tuple #[.agg #[.int .i64 level, .int .u64 n, .int .i64 x], .bool true]) ∧ ∃ A B C, w' = ((w.alloc (.cells A 24)).alloc (.cells B 24)).alloc (.cells C 24) := by
  have HP := Lib.hid (fun W => partial_calls level size h hz hh W)
  clear hh
  by_cases hc : n < h / 256
  · rw [tw_full hc] at hx
    subst hx
    go_enter Try.func6, Try.ntmps6
    go_wp2_with (go_at_call 8; refine (HP.out _).mono ?_; rintro e w' ⟨rfl, A, rfl⟩)
    exact bodyPost_ret (v := .tuple #[.agg #[.int .i64 level, .int .u64 n, .int .i64 256], .bool true]) (by simp [results, Try.results6, go_sem]) rfl ⟨rfl, _, _, _, rfl⟩
  · by_cases hc2 : n = h / 256
    · rw [tw_part hc2] at hx
      have e1 : (h : Int) / 256 = (n : Int) := by omega
      have e2 : (h : Int) % 256 = (x : Int) := by omega
      rw [e1, e2] at HP
      clear hc hc2 hx e1 e2
      have hxz : ((x : Int) == 0) = false := beq_eq_false_iff_ne.2 (by omega)
      go_enter Try.func6, Try.ntmps6
      go_wp2_with (go_at_call 8; refine (HP.out _).mono ?_; rintro e w' ⟨rfl, A, rfl⟩)
      exact bodyPost_ret (v := .tuple #[.agg #[.int .i64 level, .int .u64 n, .int .i64 x], .bool true]) (by simp [results, Try.results6, go_sem]) rfl ⟨rfl, _, _, _, rfl⟩
    · rw [tw_none (by omega)] at hx
      omega

set_option maxHeartbeats 800000 in
theorem inTree_none (level : Int) (n size h : Nat) (hz : size < 18446744073709551616) (hh : h = hs level size) (hx : tw h n = 0) (w : World) :
    Calls Try.prog 6 #[.int .i64 level, .int .u64 n, .int .u64 size] w fun e w' => e = .returned (.tuple #[.agg #[.int .i64 0, .int .u64 0, .int .i64 0], .bool false]) ∧ ∃ A B C, w' = ((w.alloc (.cells A 24)).alloc (.cells B 24)).alloc (.cells C 24) := by
  have HP := Lib.hid (fun W => partial_calls level size h hz hh W)
  clear hh
  have hn : h / 256 ≤ n ∧ (h / 256 = n → h % 256 = 0) := by unfold tw at hx; omega
  clear hx
  by_cases hc : h / 256 = n
  · have e1 : (h : Int) / 256 = (n : Int) := by omega
    have e2 : (h : Int) % 256 = 0 := by have := hn.2 hc; omega
    rw [e1, e2] at HP
    clear hn hc e1 e2
    go_enter Try.func6, Try.ntmps6
    go_wp2_with (go_at_call 8; refine (HP.out _).mono ?_; rintro e w' ⟨rfl, A, rfl⟩)
    exact bodyPost_ret (v := .tuple #[.agg #[.int .i64 0, .int .u64 0, .int .i64 0], .bool false]) (by simp [results, Try.results6, go_sem]) rfl ⟨rfl, _, _, _, rfl⟩
  · have hlt : (h : Int) / 256 < (n : Int) := by omega
    clear hn hc
    go_enter Try.func6, Try.ntmps6
    go_wp2_with (go_at_call 8; refine (HP.out _).mono ?_; rintro e w' ⟨rfl, A, rfl⟩)
    exact bodyPost_ret (v := .tuple #[.agg #[.int .i64 0, .int .u64 0, .int .i64 0], .bool false]) (by simp [results, Try.results6, go_sem]) rfl ⟨rfl, _, _, _, rfl⟩
end Go.Proofs.Qxb6617858a
