import Derived.Test.Qxb6617318aDoorPow
import Derived.Test.Qxb6617318aDoorAux
namespace Go.Proofs.Qxb6617318aDoor
open Go.ChangeShapes Go.WideShapes Go.ChangeAt Go.RowKit
set_option linter.unusedVariables false

theorem rev_start (u : Nat) : (#[Value.int .u8 (48 + (u : Int) % 10), .int .u8 0, .int .u8 0, .int .u8 0, .int .u8 0, .int .u8 0, .int .u8 0, .int .u8 0, .int .u8 0, .int .u8 0, .int .u8 0, .int .u8 0, .int .u8 0, .int .u8 0, .int .u8 0, .int .u8 0, .int .u8 0, .int .u8 0, .int .u8 0, .int .u8 0] : Array Value) = bArr 20 (revF u 1) := by
  simp [bArr, revF, dgI, List.range, List.range.loop]
theorem rev_step (u k : Nat) : bArr 20 (fun j => if j = k then dgI u k else revF u k j) = bArr 20 (revF u (k + 1)) := by
  refine bArr_congr fun j _ => ?_
  unfold revF
  by_cases h : j = k
  · subst h; simp
  · simp only [if_neg h]
    by_cases h1 : j < k
    · rw [if_pos h1, if_pos (by omega)]
    · rw [if_neg h1, if_neg (by omega)]

theorem out_start (u k : Nat) : (#[Value.int .u8 0, .int .u8 0, .int .u8 0, .int .u8 0, .int .u8 0, .int .u8 0, .int .u8 0, .int .u8 0, .int .u8 0, .int .u8 0, .int .u8 0, .int .u8 0, .int .u8 0, .int .u8 0, .int .u8 0, .int .u8 0, .int .u8 0, .int .u8 0, .int .u8 0, .int .u8 0] : Array Value) = bArr 20 (outF u k 0) := by
  simp [bArr, outF, List.range, List.range.loop]
theorem out_step (u k i : Nat) : bArr 20 (fun j => if j = i then dgI u (k - 1 - i) else outF u k i j) = bArr 20 (outF u k (i + 1)) := by
  refine bArr_congr fun j _ => ?_
  unfold outF
  by_cases h : j = i
  · subst h; simp
  · simp only [if_neg h]
    by_cases h1 : j < i
    · rw [if_pos h1, if_pos (by omega)]
    · rw [if_neg h1, if_neg (by omega)]
theorem revF_lt {u k j : Nat} (h : j < k) : revF u k j = dgI u j := by unfold revF; rw [if_pos h]

theorem ret_digits {u k : Nat} (h : k = Lib.nDigits u) : Ending.returned (.string (strOfNums ((List.range k).map fun j => dgI u (k - 1 - j)))) = .returned (.string ⟨(Lib.decDigits u).toArray⟩) := by
  rw [h, strOf_digits]
theorem Tryd.len31 : Tryd.prog.arrayLen 31 = 20 := by kernel_rfl
theorem Tryd.ht31 : Tryd.prog.underlying 31 = some (.array (Tryd.prog.arrayLen 31) (Tryd.prog.elem 31)) := by kernel_rfl
theorem Tryd.size5 (w : World) : (sizeOf (Tryd.prog.elem 31)).run Tryd.prog w = .ok 1 w := by kernel_rfl
theorem slice_out (b k : Nat) (hk : k ≤ 20) (W : World) :
    (Instr.sliceAt 31 (.pointer (some ⟨b, 0, none⟩)) none (some (.int .i64 (k : Int))) none).run Tryd.prog W = .ok (.slice (some ⟨b, 0, none⟩) k 20) W := by
  rw [run_sliceAt_array_h W 31 ⟨b, 0, none⟩ Tryd.ht31 .i64 k (by omega) (by rw [Tryd.len31]; omega), Tryd.size5, Tryd.len31]
  simp [Result.andThen, slicedAt, Addr.add]

theorem conv_out (u k : Nat) (hk : k ≤ 20) (w : World) :
    (convert 27 9 (.slice (some ⟨w.heap.size + 1, 0, none⟩) k 20)).run Tryd.prog ((w.alloc (.cells (bArr 20 (revF u k)) 31)).alloc (.cells (bArr 20 (outF u k k)) 31)) =
      .ok (.string (strOfNums ((List.range k).map fun j => dgI u (k - 1 - j)))) ((w.alloc (.cells (bArr 20 (revF u k)) 31)).alloc (.cells (bArr 20 (outF u k k)) 31)) := by
  refine run_convert_bytes_arg _ 27 5 Tryd.underlying27 Tryd.underlying5 _ 0 k 20 _ (by simp) ?_ 9 Tryd.underlying9
  intro i hi
  rw [World.cell?_alloc_at _ _ _ _ (by simp), Nat.zero_add, bArr_get (by omega)]
  simp [outF, hi]

set_option maxHeartbeats 400000 in
theorem utoa_calls (u : Nat) (hu : u < 18446744073709551616) (w : World) :
    Calls Tryd.prog 9 #[.int .u64 u] w fun e w' => e = .returned (.string ⟨(Lib.decDigits u).toArray⟩) ∧ ∃ A B, w' = (w.alloc (.cells A 31)).alloc (.cells B 31) := by
  have hnd := nd_20 hu
  go_enter Tryd.func9, Tryd.ntmps9
  go_wp2
  go_loopw [0, 4] (fun ut kt wr => ∃ k x : Nat, 1 ≤ k ∧ k ≤ Lib.nDigits u ∧ kt = .int .i64 k ∧ ut = .int .u64 x ∧ Hid (x = u / 10 ^ k) ∧ x < 18446744073709551616 ∧ wr = w.alloc (.cells (bArr 20 (revF u k)) 31))
    (fun ut _ _ => (intOf ut).toNat)
  case atStart =>
    exact ⟨1, u / 10, by omega, Lib.nDigits_pos u, rfl, by go_num, by simp [Hid], by omega, by rw [rev_start]⟩
  case round =>
    obtain ⟨k, x, hk1, hk2, rfl, rfl, hx, hx2, rfl⟩ := hrel
    by_cases hpos : 0 < x
    · have hk3 := nd_lt (u := u) (k := k) (by rw [← hx.out]; exact hpos)
      have hg : (bArr 20 (revF u k))[k]? = some (.int .u8 (revF u k k)) := bArr_get (by omega)
      go_wp2
      go_roundw
      case rel =>
        refine ⟨k + 1, x / 10, by omega, by omega, by go_num, by go_num, ?_, by omega, ?_⟩
        · show x / 10 = _
          rw [hx.out, Nat.pow_succ, Nat.div_div_eq_div_mul]
        · rw [bArr_set, ← rev_step, dgI, ← hx.out]
      case measure => simp [intOf]; omega
    · have hx0 : x = 0 := by omega
      have hke : k = Lib.nDigits u := by
        have h1 := hx.out
        rw [hx0] at h1
        have h2 := nd_le k u hk1 (by
          apply Classical.byContradiction
          intro hc
          have := Nat.div_pos (a := u) (b := 10 ^ k) (by omega) (Nat.pow_pos (by omega))
          omega)
        omega
      have HK : Hid (k = Lib.nDigits u) := hke
      clear hke hx hx2 hk2
      subst hx0
      have hk20 : k ≤ 20 := by rw [HK.out]; exact hnd
      clear hnd hu
      go_wp2
      go_loopw [6] (fun it wr => ∃ i : Nat, i ≤ k ∧ it = .int .i64 i ∧ wr = (w.alloc (.cells (bArr 20 (revF u k)) 31)).alloc (.cells (bArr 20 (outF u k i)) 31))
        (fun it _ => k - (intOf it).toNat)
      case atStart => exact ⟨0, by omega, rfl, by rw [out_start]⟩
      case round =>
        obtain ⟨i, hi, rfl, rfl⟩ := hrel
        by_cases hlt : i < k
        · have hg : (bArr 20 (revF u k))[k - 1 - i]? = some (.int .u8 (revF u k (k - 1 - i))) := bArr_get (by omega)
          have hg2 : (bArr 20 (outF u k i))[i]? = some (.int .u8 (outF u k i i)) := bArr_get (by omega)
          go_wp2
          go_roundw
          case rel => exact ⟨i + 1, by omega, by go_num, by rw [bArr_set, revF_lt (by omega), out_step]⟩
          case measure => simp [intOf]; omega
        · obtain rfl : i = k := by omega
          have hconv := conv_out u i hk20 w
          have hsl := slice_out (w.heap.size + 1) i hk20
          go_wp2
          go_ret
          exact ⟨ret_digits HK.out, _, _, rfl⟩
end Go.Proofs.Qxb6617318aDoor
