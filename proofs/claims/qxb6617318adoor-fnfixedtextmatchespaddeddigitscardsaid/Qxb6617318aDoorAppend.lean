import Derived.Test.Qxb6617318aDoorRows
import Derived.Test.Qxb6617318aDoorShelf
import Derived.Test.Qxb6617318aDoorBuf
import Derived.Lib.Hide
import Derived.CellFam
namespace Go.Proofs.Qxb6617318aDoor
open Go.RowKit Go.Sort
set_option linter.unusedVariables false

/-- The name of the table of powers of ten, as the rows spell it. -/
def tabName : String := (Rows.fnFixedTextSignSymmetricRow.named).headD default

theorem numDigits_calls (u : Nat) (h1 : 1 ≤ u) (h2 : u < 18446744073709551616) (w : World) (htab : Lib.TabIs Tryd.prog w tabName .u64 Lib.pow10Tab) :
    Calls Tryd.prog 14 #[.int .u64 u] w fun e w' => e = .returned (.int .i64 (Lib.nDigits u)) ∧ w' = w :=
  Any.internal_strconv_numDigits Tryd.laysM284 u h1 h2 w htab

theorem Tryd.info5 : (Tryd.prog.info? 5).map (fun i => (i.zero, i.size, i.bytes)) = some (some (.int .u8 0), 1, 1) := by kernel_rfl
theorem Tryd.len28 : Tryd.prog.arrayLen 28 = 24 := by kernel_rfl
theorem Tryd.ht28 : Tryd.prog.underlying 28 = some (.array (Tryd.prog.arrayLen 28) (Tryd.prog.elem 28)) := by kernel_rfl
theorem Tryd.size28 (w : World) : (sizeOf (Tryd.prog.elem 28)).run Tryd.prog w = .ok 1 w := by kernel_rfl
theorem slice28 (b k : Nat) (hk : k ≤ 24) (W : World) :
    (Instr.sliceAt 28 (.pointer (some ⟨b, 0, none⟩)) none (some (.int .i64 (k : Int))) none).run Tryd.prog W = .ok (.slice (some ⟨b, 0, none⟩) k 24) W := by
  rw [run_sliceAt_array_h W 28 ⟨b, 0, none⟩ Tryd.ht28 .i64 k (by omega) (by rw [Tryd.len28]; omega), Tryd.size28, Tryd.len28]
  simp [Result.andThen, slicedAt, Addr.add]

theorem appendUint_small (b u : Nat) (hu : u < 100) (n : Nat) (l : List UInt8) (w : World) (hB : IsBuf w b n l) (hroom : n + (Lib.decDigits u).length ≤ 24) :
    Calls Tryd.prog 12 #[.slice (some ⟨b, 0, none⟩) n 24, .int .u64 u, .int .i64 10] w fun e w' =>
      ∃ n', e = .returned (.slice (some ⟨b, 0, none⟩) n' 24) ∧ IsBuf w' b n' (l ++ Lib.decDigits u) ∧ Below b w w' := by
  obtain ⟨i0, hi, hz0, hz1, hz2⟩ := info_parts Tryd.info5
  have hsrc : Src Tryd.prog 1 9 (.string ⟨(Lib.decDigits u).toArray⟩) (Lib.decDigits u).length (Lib.byteCells (Lib.decDigits u)) w := by
    have := Src.ofString (P := Tryd.prog) w Tryd.underlying9 ⟨(Lib.decDigits u).toArray⟩
    have e : (⟨(Lib.decDigits u).toArray⟩ : ByteArray).size = (Lib.decDigits u).length := by simp [ByteArray.size]
    rw [e] at this
    exact this
  have HS := Lib.hid hsrc
  clear hsrc
  have iu : (u : Int) < 100 := by omega
  go_enter Tryd.func12, Tryd.ntmps12
  go_wp2_with (first
    | (go_at_call 13; refine (Tryd.internal_strconv_small u hu _).mono ?_; rintro e w' ⟨rfl, rfl⟩)
    | (at_builtin; refine wpList_append_buf _ rfl _ _ 27 9 5 rfl i0 Tryd.underlying27 hi hz1 b n l rfl _ rfl (Lib.decDigits u) HS.out hB hroom ?_))
  intro n1 w1 h1 h2
  go_wp2
  go_ret
  exact ⟨_, rfl, h1, h2⟩

set_option maxHeartbeats 1600000 in
theorem appendUint_big (b u : Nat) (hu : 100 ≤ u) (hu64 : u < 18446744073709551616) (n : Nat) (l : List UInt8) (w : World) (hB : IsBuf w b n l) (hroom : n + (Lib.decDigits u).length ≤ 24)
    (htab : Lib.TabIs Tryd.prog w tabName .u64 Lib.pow10Tab) :
    Calls Tryd.prog 12 #[.slice (some ⟨b, 0, none⟩) n 24, .int .u64 u, .int .i64 10] w fun e w' =>
      ∃ n', e = .returned (.slice (some ⟨b, 0, none⟩) n' 24) ∧ IsBuf w' b n' (l ++ Lib.decDigits u) ∧ Below b w w' := by
  obtain ⟨i0, hi, hz0, hz1, hz2⟩ := info_parts Tryd.info5
  have hu1 : 1 ≤ u := by omega
  have hnd20 : Lib.nDigits u ≤ 20 := by have := Lib.numDigits_eq u hu1 hu64; split at this <;> omega
  have hsl := slice28 w.heap.size (Lib.nDigits u) (by omega)
  have hH0 := Lib.holds_zero0 w 28 (Lib.nDigits u) (by omega)
  have hfmt := Tryd.internal_strconv_formatBase10 w.heap.size 0 24 u (Array.replicate (Lib.nDigits u) 0) (w.alloc (.cells Lib.zeros24 28)) hH0 (by rw [Array.size_replicate]; exact Lib.lt_pow_nDigits u) hu64 (by rw [Array.size_replicate]; omega)
  rw [Array.size_replicate] at hfmt
  have HH0 := Lib.hid hH0
  have HR := Lib.hid hroom
  have iu : (100 : Int) ≤ (u : Int) := by omega
  clear hH0 hroom
  go_enter Tryd.func12, Tryd.ntmps12
  go_wp2_with (first
    | (go_at_call 14; refine (numDigits_calls u hu1 hu64 _ (Lib.tabIs_alloc htab _)).mono ?_; rintro e w' ⟨rfl, rfl⟩))
  refine hfmt.mono ?_
  rintro e w' ⟨rfl, k, v', dk, rfl, hF⟩
  have hcells : ∀ j u', (Lib.byteCells (Lib.decDigits u))[j]? = some u' → ((putRow (fun (b : UInt8) => Value.int .u8 (b.toNat : Int)) (w.alloc (.cells Lib.zeros24 28)) w.heap.size 0 dk).drewN k).cell? ((⟨w.heap.size, 0, none⟩ : Addr).add j) = some u' := by
    intro j u' hj
    have hjl : j < (Lib.decDigits u).length := by
      have h5 := (List.getElem?_eq_some_iff.1 hj).1
      rwa [Lib.byteCells_length] at h5
    have e5 : (Lib.byteCells (Lib.decDigits u))[j]? = some (Value.int .u8 ((Lib.decDigits u)[j].toNat : Int)) := by simp [Lib.byteCells, hjl]
    rw [e5] at hj
    cases hj
    rw [Lib.row_is_numeral hF j hjl, Lib.add_plain, World.cell?_drewN]
    exact cell?_putRow (fun (b : UInt8) => Value.int .u8 (b.toNat : Int)) _ w.heap.size 0 _ dk HH0.out (by rw [hF.size, Array.size_replicate]) j (by rw [hF.size]; rw [Lib.decDigits_length] at hjl; exact hjl)
  obtain ⟨os, eo⟩ := Lib.fin_at w (.cells Lib.zeros24 28) dk k 0
  have hnx2 : Below w.heap.size w ((putRow (fun (b : UInt8) => Value.int .u8 (b.toNat : Int)) (w.alloc (.cells Lib.zeros24 28)) w.heap.size 0 dk).drewN k) := by rw [eo]; exact Lib.below_grow w.heap.size w (Nat.le_refl _) k os
  generalize (putRow (fun (b : UInt8) => Value.int .u8 (b.toNat : Int)) (w.alloc (.cells Lib.zeros24 28)) w.heap.size 0 dk).drewN k = W2 at hcells hnx2 ⊢
  clear eo HH0 hfmt
  have hB2 : IsBuf W2 b n l := hB.below hnx2 hB.here
  have hsrc : Src Tryd.prog 1 27 (.slice (some ⟨w.heap.size, 0, none⟩) (Lib.decDigits u).length 24) (Lib.decDigits u).length (Lib.byteCells (Lib.decDigits u)) W2 :=
    Src.ofSlice W2 Tryd.underlying27 ⟨w.heap.size, 0, none⟩ _ 24 _ (by rw [Lib.byteCells_length, Nat.mul_one]) hcells (Lib.byteCells_one _)
  rw [Lib.decDigits_length] at hsrc
  have HS := Lib.hid hsrc
  clear hsrc hcells
  go_wp2_with (at_builtin; refine wpList_append_buf _ rfl _ _ 27 27 5 rfl i0 Tryd.underlying27 hi hz1 b n l rfl _ rfl (Lib.decDigits u) (by rw [Lib.decDigits_length]; exact HS.out) hB2 HR.out ?_)
  intro n3 w3 h1 h2
  go_wp2
  go_ret
  exact ⟨_, rfl, h1, (hnx2.mono (Nat.le_of_lt hB.here)).trans h2⟩

theorem appendUint_calls (b u : Nat) (hu64 : u < 18446744073709551616) (n : Nat) (l : List UInt8) (w : World) (hB : IsBuf w b n l) (hroom : n + (Lib.decDigits u).length ≤ 24)
    (htab : Lib.TabIs Tryd.prog w tabName .u64 Lib.pow10Tab) :
    Calls Tryd.prog 12 #[.slice (some ⟨b, 0, none⟩) n 24, .int .u64 u, .int .i64 10] w fun e w' =>
      ∃ n', e = .returned (.slice (some ⟨b, 0, none⟩) n' 24) ∧ IsBuf w' b n' (l ++ Lib.decDigits u) ∧ Below b w w' := by
  by_cases h : u < 100
  · exact appendUint_small b u h n l w hB hroom
  · exact appendUint_big b u (by omega) hu64 n l w hB hroom htab

/-- strconv.AppendUint itself. -/
theorem pubAppendUint_calls (b u : Nat) (hu64 : u < 18446744073709551616) (n : Nat) (l : List UInt8) (w : World) (hB : IsBuf w b n l) (hroom : n + (Lib.decDigits u).length ≤ 24)
    (htab : Lib.TabIs Tryd.prog w tabName .u64 Lib.pow10Tab) :
    Calls Tryd.prog 11 #[.slice (some ⟨b, 0, none⟩) n 24, .int .u64 u, .int .i64 10] w fun e w' =>
      ∃ n', e = .returned (.slice (some ⟨b, 0, none⟩) n' 24) ∧ IsBuf w' b n' (l ++ Lib.decDigits u) ∧ Below b w w' := by
  have h := appendUint_calls b u hu64 n l w hB hroom htab
  have H := Lib.hid h
  clear h hroom htab
  go_enter Tryd.func11, Tryd.ntmps11
  go_wp2_with fail
  refine H.out.mono ?_
  rintro e w' ⟨n', rfl, h1, h2⟩
  go_wp2
  go_ret
  exact ⟨_, rfl, h1, h2⟩
end Go.Proofs.Qxb6617318aDoor
