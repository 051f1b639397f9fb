import Derived.Test.Qxb6618946aRow
import Derived.Deep.RegionWith
import Derived.Lib.AppendStr
namespace Go.Proofs.Qxb6618946a
open Go.ChangeShapes Go.WideShapes Go.ChangeAt Go.RowKit
set_option linter.unusedVariables false

set_option maxHeartbeats 1600000 in
theorem int_calls (B E u : Nat) (x : Int) (hx : IntKind.u32.wrap x = (u : Int)) (hu : u < 4294967296) (l : List UInt8) (w : World) (he : Enc w B E l) (hB : B ≤ w.heap.size) (hBE : B ≤ E) (hlim : l.length ≤ 1099511627776) :
    Calls Try.prog 11 #[.pointer (some ⟨E, 0, none⟩), .int .i32 x] w fun e w' => e = .returned (.tuple #[]) ∧ Enc w' B E (l ++ be4 u) ∧ Below B w w' ∧ Fr E w w' := by
  obtain ⟨v, hv, hr⟩ := he.ex
  obtain ⟨ao, n, cap, rfl, Hn⟩ := hr.shape
  have hc := hv.cell
  have hf := hv.frozen
  have HV : Hid (Boxed w.drew E 44 (.slice ao n cap)) := hv
  have HR := Lib.hid hr.drew
  clear hv hr he
  go_enter Try.func11, Try.ntmps11
  go_wp2
  go_region_with (go_at_call 22; refine (append32_calls B u hu _ l _ HR.out hB hlim).mono ?_; rintro e w1 ⟨v', rfl, hr1, hg1⟩; obtain ⟨ao1, n1, cap1, rfl, Hn1⟩ := hr1.shape; have h5 := Lib.hid (enc_step (W := w.drew) HV.out HR.out hB hBE hr1 hg1); have hc1 := h5.out.1.cell; have hf1 := h5.out.1.frozen)
  all_goals
    go_end0
    exact ⟨rfl, h5.out.2.1, (Below.refl B w).drew.trans h5.out.2.2.1, (Fr.drew E w).trans h5.out.2.2.2⟩

/-- One string as the encoding lays it. -/
def encS (s : ByteArray) : List UInt8 := be4 s.size ++ s.data.toList
theorem encS_length (s : ByteArray) : (encS s).length = 4 + s.size := by
  unfold encS
  rw [List.length_append]
  show 4 + _ = _
  rfl

theorem row_str {W : World} {B : Nat} {v : Value} {l l' : List UInt8} {s : ByteArray} (h : W.ownsRow B 5 1 v (l.length + s.size) (Lib.byteCells l ++ Lib.strCells s)) (hl : l ++ s.data.toList = l') : Row W B v l' := by
  subst hl
  refine ⟨?_⟩
  rw [List.length_append, Lib.byteCells_append]
  exact h

set_option maxHeartbeats 1600000 in
theorem string_calls (B E : Nat) (s : ByteArray) (hs : s.size ≤ 1048576) (l : List UInt8) (w : World) (he : Enc w B E l) (hB : B ≤ w.heap.size) (hBE : B ≤ E) (hlim : l.length ≤ 549755813888) :
    Calls Try.prog 24 #[.pointer (some ⟨E, 0, none⟩), .string s] w fun e w' => e = .returned (.tuple #[]) ∧ Enc w' B E (l ++ encS s) ∧ Below B w w' ∧ Fr E w w' := by
  obtain ⟨i0, hi, hz0, hz1, hz2⟩ := info_parts Try.info5
  have HI := Lib.hid (fun x hx => int_calls B E s.size x hx (by omega) l w he hB hBE (by omega))
  clear he
  go_enter Try.func24, Try.ntmps24
  go_wp2_with fail
  refine (HI.out _ (by rw [show IntKind.u32.wrap (s.size : Int) = (s.size : Int) from IntWalk.u32_in _ (by omega)])).mono ?_
  rintro e w1 ⟨rfl, he1, hb1, hk1⟩
  have hn : (l ++ be4 s.size).length = l.length + 4 := by rw [List.length_append]; rfl
  have hL : (l ++ be4 s.size) ++ s.data.toList = l ++ encS s := by unfold encS; rw [List.append_assoc]
  generalize l ++ be4 s.size = L1 at *
  have HL := Lib.hid hL
  have HN := Lib.hid hn
  clear hn hL
  obtain ⟨v, hv, hr⟩ := he1.ex
  obtain ⟨ao, n, cap, rfl, Hn⟩ := hr.shape
  have hc := hv.cell
  have hf := hv.frozen
  have HV := Lib.hid hv
  have HR := Lib.hid hr
  have hB1 : B ≤ w1.heap.size := Nat.le_trans hB hb1.size
  clear hv hr he1 HI
  go_wp2_with (at_builtin; refine Lib.wpList_append_own_string _ rfl _ _ 22 9 rfl B 5 i0 Try.underlying22 Try.underlying9 hi hz0 hz1 hz2 _ _ _ rfl HR.out.own s rfl (by rw [HN.out]; unfold maxLen; omega) (by rw [HN.out]; omega) hB1 ?_; intro v' w2 hown hgrow _; have hr2 : Hid (Row w2 B v' (l ++ encS s)) := row_str hown HL.out; clear hown; obtain ⟨ao1, n1, cap1, rfl, Hn1⟩ := hr2.out.shape; have h5 := Lib.hid (enc_step HV.out HR.out hB1 hBE hr2.out hgrow); have hc1 := h5.out.1.cell; have hf1 := h5.out.1.frozen)
  go_end0
  exact ⟨rfl, h5.out.2.1, hb1.trans h5.out.2.2.1, hk1.trans h5.out.2.2.2⟩
end Go.Proofs.Qxb6618946a
