import Derived.Test.Qxb6617858aTile
namespace Go.Proofs.Qxb6617858a
open Go.ChangeShapes Go.WideShapes Go.ChangeAt Go.RowKit
set_option linter.unusedVariables false

/-! ### zzHashes -/
theorem pow_small {size k : Nat} (hz : size < 18446744073709551616) (hk : 0 < size / 256 ^ k) : k < 8 := by
  apply Classical.byContradiction
  intro hc
  have h1 : 256 ^ 8 ≤ 256 ^ k := Nat.pow_le_pow_right (by omega) (by omega)
  rw [Nat.div_eq_of_lt (by omega)] at hk
  omega
theorem hs_end {level : Int} {size k : Nat} (hk8 : k ≤ 8) (hkl : k ≤ level.toNat) (he : ¬ (k : Int) < level ∨ size / 256 ^ k = 0) : size / 256 ^ k = hs level size := by
  unfold hs
  rcases he with he | he
  · rw [show k = min level.toNat 8 by omega]
  · have h1 : 256 ^ k ≤ 256 ^ (min level.toNat 8) := Nat.pow_le_pow_right (by omega) (by omega)
    have h2 : size / 256 ^ (min level.toNat 8) ≤ size / 256 ^ k := Nat.div_le_div_left h1 (Nat.pow_pos (by decide : 0 < 256))
    rw [he] at h2 ⊢
    exact (Nat.le_zero.1 h2).symm

set_option maxHeartbeats 400000 in
theorem hashes_calls (level : Int) (size : Nat) (hz : size < 18446744073709551616) (w : World) :
    Calls Try.prog 9 #[.int .i64 level, .int .u64 size] w fun e w' => e = .returned (.int .u64 (hs level size)) ∧ w = w' := by
  go_enter Try.func9, Try.ntmps9
  go_wp2
  go_loop [5, 6] (fun ht kt => ∃ k x : Nat, k ≤ 8 ∧ k ≤ level.toNat ∧ kt = .int .i64 k ∧ ht = .int .u64 x ∧ Hid (x = size / 256 ^ k) ∧ x < 18446744073709551616) (fun ht _ => (intOf ht).toNat)
  case atStart => exact ⟨0, size, by omega, by omega, rfl, rfl, by simp [Hid], hz⟩
  case round =>
    obtain ⟨k, x, hk8, hkl, rfl, rfl, Hx, hxz⟩ := hrel
    by_cases hlt : (k : Int) < level
    · by_cases hpos : 0 < x
      · have hk := pow_small hz (k := k) (by rw [← Hx.out]; exact hpos)
        have Hx2 : Hid (x / 256 = size / 256 ^ (k + 1)) := by
          show x / 256 = _
          rw [Hx.out, Nat.pow_succ, Nat.div_div_eq_div_mul]
        go_wp2
        go_round
        case rel => exact ⟨k + 1, x / 256, by omega, by omega, by go_num, by go_num, Hx2, by omega⟩
        case measure => simp [intOf]; omega
      · obtain rfl : x = 0 := by omega
        have HE := Lib.hid (hs_end (level := level) hk8 hkl (.inr Hx.out.symm))
        rw [← Hx.out] at HE
        go_wp2
        go_ret
        exact ⟨by rw [← HE.out]; rfl, rfl⟩
    · have HE := Lib.hid (hs_end (level := level) (size := size) hk8 hkl (.inl hlt))
      rw [← Hx.out] at HE
      clear hkl
      go_wp2
      go_ret
      exact ⟨by rw [← HE.out]; rfl, rfl⟩

/-! ### The same over Int: a numeral of 17 digits against a cast stops the walk -/
def hsI (level s : Int) : Int := (hs level s.toNat : Nat)
/-- The width of tile n where its level holds h hashes; 0: it is not there. -/
def twI (h n : Int) : Int := if h ≤ 256 * n then 0 else if h - 256 * n ≤ 256 then h - 256 * n else 256
theorem twI_eq (h n : Nat) : twI h n = (tw h n : Int) := by
  unfold twI tw
  split
  · omega
  · split <;> omega
theorem hsI_bd (level s : Int) (h0 : 0 ≤ s) : 0 ≤ hsI level s ∧ hsI level s ≤ s := by
  have := hs_le level s.toNat
  unfold hsI
  omega
theorem hashes_callsI (level s h : Int) (h0 : 0 ≤ s) (h1 : s ≤ 18446744073709551615) (hh : h = hsI level s) (w : World) :
    Calls Try.prog 9 #[.int .i64 level, .int .u64 s] w fun e w' => e = .returned (.int .u64 h) ∧ w = w' := by
  obtain ⟨k, rfl⟩ := Int.eq_ofNat_of_zero_le h0
  subst hh
  exact hashes_calls level k (by omega) w
theorem inTree_someI (level n s h x : Int) (n0 : 0 ≤ n) (h0 : 0 ≤ s) (h1 : s ≤ 18446744073709551615) (hh : h = hsI level s) (hx : x = twI h n) (hp : 0 < x) (w : World) :
    Calls Try.prog 6 #[.int .i64 level, .int .u64 n, .int .u64 s] w fun e w' => e = .returned (.tuple #[.agg #[.int .i64 level, .int .u64 n, .int .i64 x], .bool true]) ∧ ∃ A B C, w' = ((w.alloc (.cells A 24)).alloc (.cells B 24)).alloc (.cells C 24) := by
  obtain ⟨k, rfl⟩ := Int.eq_ofNat_of_zero_le h0
  obtain ⟨m, rfl⟩ := Int.eq_ofNat_of_zero_le n0
  unfold hsI at hh
  rw [Int.toNat_natCast] at hh
  subst hh
  rw [twI_eq] at hx
  subst hx
  exact inTree_some level m k _ _ (by omega) rfl rfl (by omega) w
theorem inTree_noneI (level n s h : Int) (n0 : 0 ≤ n) (h0 : 0 ≤ s) (h1 : s ≤ 18446744073709551615) (hh : h = hsI level s) (hx : twI h n = 0) (w : World) :
    Calls Try.prog 6 #[.int .i64 level, .int .u64 n, .int .u64 s] w fun e w' => e = .returned (.tuple #[.agg #[.int .i64 0, .int .u64 0, .int .i64 0], .bool false]) ∧ ∃ A B C, w' = ((w.alloc (.cells A 24)).alloc (.cells B 24)).alloc (.cells C 24) := by
  obtain ⟨k, rfl⟩ := Int.eq_ofNat_of_zero_le h0
  obtain ⟨m, rfl⟩ := Int.eq_ofNat_of_zero_le n0
  unfold hsI at hh
  rw [Int.toNat_natCast] at hh
  subst hh
  rw [twI_eq] at hx
  exact inTree_none level m k _ (by omega) rfl (by omega) w

/-! ### zzExpect -/
theorem twI_pos {h n : Int} (hp : 0 < twI h n) : 256 * n < h ∧ ((twI h n = h - 256 * n ∧ h - 256 * n ≤ 256) ∨ (twI h n = 256 ∧ 256 < h - 256 * n)) := by
  unfold twI at hp ⊢
  split at hp
  · omega
  · rename_i hc
    rw [if_neg hc]
    split
    · omega
    · omega
theorem twI_nonneg (h n : Int) : 0 ≤ twI h n ∧ twI h n ≤ 256 := by
  unfold twI
  split
  · omega
  · split <;> omega
theorem twI_zero {h n : Int} (hp : twI h n = 0) : h ≤ 256 * n := by
  unfold twI at hp
  split at hp
  · assumption
  · split at hp <;> omega
set_option maxHeartbeats 800000 in
theorem expect_some (level n s h x : Int) (n0 : 0 ≤ n) (h0 : 0 ≤ s) (h1 : s ≤ 18446744073709551615) (hh : h = hsI level s) (hx : x = twI h n) (hp : 0 < x) (w : World) :
    Calls Try.prog 7 #[.int .i64 level, .int .u64 n, .int .u64 s] w fun e w' => e = .returned (.tuple #[.agg #[.int .i64 level, .int .u64 n, .int .i64 x], .bool true]) ∧ ∃ A, w' = w.alloc (.cells A 24) := by
  have HP := Lib.hid (fun W => hashes_callsI level s h h0 h1 hh W)
  have hle := hsI_bd level s h0
  rw [← hh] at hle
  rw [hx] at hp
  obtain ⟨hlt, hcase⟩ := twI_pos hp
  rw [← hx] at hcase hp
  clear hh hx
  have hn : n < 72057594037927936 := by omega
  have hlt' : n * 256 < h := by omega
  clear hlt
  rcases hcase with ⟨hc1, hc2⟩ | ⟨hc1, hc2⟩
  · have e1 : h - n * 256 = x := by omega
    have hx2 : x ≤ 256 := by omega
    clear hc1 hc2
    go_enter Try.func7, Try.ntmps7
    go_wp2_with (go_at_call 9; refine (HP.out _).mono ?_; rintro e w' ⟨rfl, rfl⟩)
    exact bodyPost_ret (v := .tuple #[.agg #[.int .i64 level, .int .u64 n, .int .i64 x], .bool true]) (by simp [results, Try.results7, go_sem]) rfl ⟨rfl, _, rfl⟩
  · subst hc1
    have hc3 : 256 < h - n * 256 := by omega
    clear hc2
    go_enter Try.func7, Try.ntmps7
    go_wp2_with (go_at_call 9; refine (HP.out _).mono ?_; rintro e w' ⟨rfl, rfl⟩)
    exact bodyPost_ret (v := .tuple #[.agg #[.int .i64 level, .int .u64 n, .int .i64 256], .bool true]) (by simp [results, Try.results7, go_sem]) rfl ⟨rfl, _, rfl⟩

set_option maxHeartbeats 800000 in
theorem expect_none (level n s h : Int) (n0 : 0 ≤ n) (h0 : 0 ≤ s) (h1 : s ≤ 18446744073709551615) (hh : h = hsI level s) (hx : twI h n = 0) (w : World) :
    Calls Try.prog 7 #[.int .i64 level, .int .u64 n, .int .u64 s] w fun e w' => e = .returned (.tuple #[.agg #[.int .i64 0, .int .u64 0, .int .i64 0], .bool false]) ∧ ∃ A, w' = w.alloc (.cells A 24) := by
  have HP := Lib.hid (fun W => hashes_callsI level s h h0 h1 hh W)
  have hle := hsI_bd level s h0
  rw [← hh] at hle
  have hc := twI_zero hx
  clear hh hx
  by_cases hn : n < 72057594037927936
  · have hc' : h ≤ n * 256 := by omega
    clear hc
    go_enter Try.func7, Try.ntmps7
    go_wp2_with (go_at_call 9; refine (HP.out _).mono ?_; rintro e w' ⟨rfl, rfl⟩)
    exact bodyPost_ret (v := .tuple #[.agg #[.int .i64 0, .int .u64 0, .int .i64 0], .bool false]) (by simp [results, Try.results7, go_sem]) rfl ⟨rfl, _, rfl⟩
  · clear hc
    go_enter Try.func7, Try.ntmps7
    go_wp2_with (go_at_call 9; refine (HP.out _).mono ?_; rintro e w' ⟨rfl, rfl⟩)
    exact bodyPost_ret (v := .tuple #[.agg #[.int .i64 0, .int .u64 0, .int .i64 0], .bool false]) (by simp [results, Try.results7, go_sem]) rfl ⟨rfl, _, rfl⟩
end Go.Proofs.Qxb6617858a
