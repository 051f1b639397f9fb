import Derived.Test.Qxb6618946aClone
namespace Go.Proofs.Qxb6618946a
open Go.ChangeShapes Go.WideShapes Go.ChangeAt Go.RowKit
set_option linter.unusedVariables false

/-! ### A slice of strings that came in -/
def sAt (ss : List ByteArray) (j : Nat) : ByteArray := ss.getD j ByteArray.empty
def ReadsS (w : World) (v : Value) (ss : List ByteArray) : Prop :=
  (v = .slice none 0 0 ∧ ss = []) ∨ ∃ ad cap, v = .slice (some ad) ss.length cap ∧ ∀ j, j < ss.length → w.cell? (ad.add j) = some (.string (sAt ss j))

/-! ### zzAdd -/
set_option maxHeartbeats 400000 in
theorem add_calls (a n : Int) (a0 : 0 ≤ a) (n0 : 0 ≤ n) (w : World) :
    Calls Try.prog 23 #[.int .i64 a, .int .i64 n] w fun e w' => (∃ r : Int, e = .returned (.int .i64 r) ∧ 0 ≤ r ∧ r ≤ 2097152) ∧ w = w' := by
  by_cases h1 : 1048576 < a
  · go_enter Try.func23, Try.ntmps23
    go_wp2
    go_ret
    exact ⟨⟨_, rfl, by omega, by omega⟩, rfl⟩
  by_cases h2 : 1048576 < n
  · go_enter Try.func23, Try.ntmps23
    go_wp2
    go_ret
    exact ⟨⟨_, rfl, by omega, by omega⟩, rfl⟩
  · go_enter Try.func23, Try.ntmps23
    go_wp2
    go_ret
    exact ⟨⟨_, rfl, by omega, by omega⟩, rfl⟩

/-! ### zzSeqSize -/
set_option maxHeartbeats 800000 in
theorem seqSize_some (b : Option Addr) (nb cb : Nat) (ad : Addr) (n cap : Nat) (hnb : nb ≤ maxLen) (hn : n ≤ maxLen) (ss : List ByteArray) (w : World) (hc : ∀ j, j < n → w.cell? (ad.add j) = some (.string (sAt ss j))) (hm : ∀ j, (sAt ss j).size ≤ maxLen) :
    Calls Try.prog 16 #[.slice b nb cb, .slice (some ad) n cap] w fun e w' => (∃ r : Int, e = .returned (.int .i64 r)) ∧ w = w' := by
  unfold maxLen at hnb hn hm
  have HC := Lib.hid hc
  have HM := Lib.hid hm
  clear hc hm
  go_enter Try.func16, Try.ntmps16
  go_wp2_with (go_at_call 23; refine (add_calls _ _ (by omega) (by omega) _).mono ?_; rintro e w' ⟨⟨r, rfl, hr0, hr1⟩, rfl⟩)
  go_loop [5, 6] (fun at_ it => ∃ (k : Nat) (r : Int), k ≤ n ∧ it = .int .i64 k ∧ at_ = .int .i64 r ∧ 0 ≤ r ∧ r ≤ 2097152) (fun _ it => n - (intOf it).toNat)
  case atStart => exact ⟨0, r, Nat.zero_le _, rfl, rfl, hr0, hr1⟩
  case round =>
    clear hr0 hr1
    obtain ⟨k, r, hk, rfl, rfl, hr0, hr1⟩ := hrel
    by_cases hlt : k < n
    · have hcx := HC.out k hlt
      have hsz := HM.out k
      generalize sAt ss k = s at *
      go_wp2_with fail
      refine (add_calls r 16 hr0 (by omega) _).mono ?_
      rintro e w' ⟨⟨r2, rfl, hr2, hr3⟩, rfl⟩
      clear hr0 hr1
      go_wp2_with fail
      refine (add_calls r2 s.size hr2 (by omega) _).mono ?_
      rintro e w' ⟨⟨r4, rfl, hr4, hr5⟩, rfl⟩
      clear hr2 hr3
      by_cases hgt : 1048576 < r4
      · go_wp2
        go_ret
        exact ⟨⟨_, rfl⟩, rfl⟩
      · go_wp2
        go_round
        case rel => exact ⟨k + 1, r4, by omega, by go_num, rfl, hr4, hr5⟩
        case measure => simp [intOf]; omega
    · go_wp2
      go_ret
      exact ⟨⟨_, rfl⟩, rfl⟩

set_option maxHeartbeats 800000 in
theorem seqSize_nil (b : Option Addr) (nb cb : Nat) (hnb : nb ≤ maxLen) (w : World) :
    Calls Try.prog 16 #[.slice b nb cb, .slice none 0 0] w fun e w' => (∃ r : Int, e = .returned (.int .i64 r)) ∧ w = w' := by
  unfold maxLen at hnb
  go_enter Try.func16, Try.ntmps16
  go_wp2_with (go_at_call 23; refine (add_calls _ _ (by omega) (by omega) _).mono ?_; rintro e w' ⟨⟨r, rfl, hr0, hr1⟩, rfl⟩)
  go_loop [5, 6] (fun at_ it => at_ = .int .i64 r ∧ it = .int .i64 0) (fun _ _ => 0)
  case atStart => exact ⟨rfl, rfl⟩
  case round =>
    obtain ⟨rfl, rfl⟩ := hrel
    go_wp2
    go_ret
    exact ⟨⟨_, rfl⟩, rfl⟩
theorem seqSize_calls (b : Option Addr) (nb cb : Nat) (hnb : nb ≤ maxLen) (v : Value) (ss : List ByteArray) (hn : ss.length ≤ maxLen) (hm : ∀ j, (sAt ss j).size ≤ maxLen) (w : World) (hr : ReadsS w v ss) :
    Calls Try.prog 16 #[.slice b nb cb, v] w fun e w' => (∃ r : Int, e = .returned (.int .i64 r)) ∧ w = w' := by
  rcases hr with ⟨rfl, rfl⟩ | ⟨ad, cap, rfl, hc⟩
  · exact seqSize_nil b nb cb hnb w
  · exact seqSize_some b nb cb ad ss.length cap hnb hn ss w hc hm

/-! ### zzBytes: the bound on every length -/
/-- Every string is at most 2^20 bytes long. -/
def Short (ss : List ByteArray) (n : Nat) : Prop := ∀ j, j < n → (sAt ss j).size ≤ 1048576
def OkB (ss : List ByteArray) (n : Nat) (e : Ending) : Prop := ∃ r : Bool, e = .returned (.bool r) ∧ (r = true → Short ss n)

set_option maxHeartbeats 1600000 in
theorem bytes_some (b : Option Addr) (nb cb : Nat) (x y : Int) (ad : Addr) (n cap : Nat) (hnb : nb ≤ maxLen) (hn : n ≤ maxLen) (ss : List ByteArray) (w : World) (hc : ∀ j, j < n → w.cell? (ad.add j) = some (.string (sAt ss j))) (hm : ∀ j, (sAt ss j).size ≤ maxLen) :
    Calls Try.prog 15 #[.slice b nb cb, .int .i64 x, .slice (some ad) n cap, .int .i64 y] w fun e w' => OkB ss n e ∧ w = w' := by
  unfold maxLen at hnb hn hm
  have HC := Lib.hid hc
  have HM := Lib.hid hm
  clear hc hm
  by_cases h1 : 1048576 < nb
  · go_enter Try.func15, Try.ntmps15
    go_wp2
    go_ret
    exact ⟨⟨false, rfl, by simp⟩, rfl⟩
  by_cases h2 : 1048576 < n
  · go_enter Try.func15, Try.ntmps15
    go_wp2
    go_ret
    exact ⟨⟨false, rfl, by simp⟩, rfl⟩
  by_cases h3 : 1048576 < nb + n
  · go_enter Try.func15, Try.ntmps15
    go_wp2
    go_ret
    exact ⟨⟨false, rfl, by simp⟩, rfl⟩
  have h4 : nb + n ≤ 1048576 := by omega
  clear h1 h2 h3
  go_enter Try.func15, Try.ntmps15
  go_wp2
  go_loop [9, 10] (fun zt it => ∃ (k : Nat) (z : Int), k ≤ n ∧ it = .int .i64 k ∧ zt = .int .i64 z ∧ 0 ≤ z ∧ z ≤ 1048576 ∧ Hid (Short ss k)) (fun _ it => n - (intOf it).toNat)
  case atStart => exact ⟨0, _, Nat.zero_le _, rfl, rfl, by omega, by omega, fun j hj => by omega⟩
  case round =>
    obtain ⟨k, z, hk, rfl, rfl, hz0, hz1, HS⟩ := hrel
    by_cases hlt : k < n
    · have hcx := HC.out k hlt
      have hsz := HM.out k
      have HS' : Hid ((sAt ss k).size ≤ 1048576 → Short ss (k + 1)) := fun h j hj => by
        by_cases e : j = k
        · subst e; exact h
        · exact HS.out j (by omega)
      generalize sAt ss k = s at *
      by_cases hg : 1048576 < s.size
      · go_wp2
        go_ret
        exact ⟨⟨false, rfl, by simp⟩, rfl⟩
      by_cases hg2 : 1048576 < z + s.size
      · go_wp2
        go_ret
        exact ⟨⟨false, rfl, by simp⟩, rfl⟩
      · go_wp2
        go_round
        case rel => exact ⟨k + 1, z + s.size, by omega, by go_num, rfl, by omega, by omega, HS'.out (by omega)⟩
        case measure => simp [intOf]; omega
    · obtain rfl : k = n := by omega
      go_wp2
      go_ret
      exact ⟨⟨true, rfl, fun _ => HS.out⟩, rfl⟩

set_option maxHeartbeats 1600000 in
theorem bytes_nil (b : Option Addr) (nb cb : Nat) (x y : Int) (hnb : nb ≤ maxLen) (w : World) :
    Calls Try.prog 15 #[.slice b nb cb, .int .i64 x, .slice none 0 0, .int .i64 y] w fun e w' => OkB [] 0 e ∧ w = w' := by
  unfold maxLen at hnb
  by_cases h1 : 1048576 < nb
  · go_enter Try.func15, Try.ntmps15
    go_wp2
    go_ret
    exact ⟨⟨false, rfl, by simp⟩, rfl⟩
  go_enter Try.func15, Try.ntmps15
  go_wp2
  go_loop [10] (fun it => it = .int .i64 0) (fun _ => 0)
  case atStart => rfl
  case round =>
    subst hrel
    go_wp2
    go_ret
    exact ⟨⟨true, rfl, fun _ j hj => by omega⟩, rfl⟩
theorem bytes_calls (b : Option Addr) (nb cb : Nat) (x y : Int) (hnb : nb ≤ maxLen) (v : Value) (ss : List ByteArray) (hn : ss.length ≤ maxLen) (hm : ∀ j, (sAt ss j).size ≤ maxLen) (w : World) (hr : ReadsS w v ss) :
    Calls Try.prog 15 #[.slice b nb cb, .int .i64 x, v, .int .i64 y] w fun e w' => OkB ss ss.length e ∧ w = w' := by
  rcases hr with ⟨rfl, rfl⟩ | ⟨ad, cap, rfl, hc⟩
  · exact bytes_nil b nb cb x y hnb w
  · exact bytes_some b nb cb x y ad ss.length cap hnb hn ss w hc hm
end Go.Proofs.Qxb6618946a
