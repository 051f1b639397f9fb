import Derived.Test.Qxb6617318aDoorUtoa
import Derived.Test.Qxb6617318aDoorPlainLaws
import Derived.Lib.Hide
import Derived.Lib.AppendIntMem
import Derived.Lib.BufferKept
namespace Go.Proofs.Qxb6617318aDoor
open Go.ChangeShapes Go.WideShapes Go.ChangeAt Go.RowKit
set_option linter.unusedVariables false

/-! ### The array 'out' with the bytes l at its head -/
def arr (l : List UInt8) : Array Value := bArr 48 (fun j => ((l.getD j 0).toNat : Int))
theorem arr_get (l : List UInt8) (j : Nat) (h : j < 48) : (arr l)[j]? = some (.int .u8 ((l.getD j 0).toNat : Int)) := bArr_get h
theorem arr_put (l : List UInt8) (c : UInt8) : (arr l).setIfInBounds l.length (.int .u8 (c.toNat : Int)) = arr (l ++ [c]) := by
  unfold arr
  rw [bArr_set]
  refine bArr_congr fun j _ => ?_
  by_cases h : j = l.length
  · subst h
    simp [List.getD]
  · rw [if_neg h]
    by_cases h1 : j < l.length
    · simp [List.getD, List.getElem?_append_left h1]
    · rw [List.getD, List.getD, List.getElem?_eq_none (by omega), List.getElem?_eq_none (by simp; omega)]
theorem arr_nil : (#[Value.int .u8 0, .int .u8 0, .int .u8 0, .int .u8 0, .int .u8 0, .int .u8 0, .int .u8 0, .int .u8 0, .int .u8 0, .int .u8 0, .int .u8 0, .int .u8 0, .int .u8 0, .int .u8 0, .int .u8 0, .int .u8 0, .int .u8 0, .int .u8 0, .int .u8 0, .int .u8 0, .int .u8 0, .int .u8 0, .int .u8 0, .int .u8 0, .int .u8 0, .int .u8 0, .int .u8 0, .int .u8 0, .int .u8 0, .int .u8 0, .int .u8 0, .int .u8 0, .int .u8 0, .int .u8 0, .int .u8 0, .int .u8 0, .int .u8 0, .int .u8 0, .int .u8 0, .int .u8 0, .int .u8 0, .int .u8 0, .int .u8 0, .int .u8 0, .int .u8 0, .int .u8 0, .int .u8 0, .int .u8 0] : Array Value) = arr [] := by
  simp [arr, bArr, List.range, List.range.loop]
theorem arr_minus : (#[Value.int .u8 45, .int .u8 0, .int .u8 0, .int .u8 0, .int .u8 0, .int .u8 0, .int .u8 0, .int .u8 0, .int .u8 0, .int .u8 0, .int .u8 0, .int .u8 0, .int .u8 0, .int .u8 0, .int .u8 0, .int .u8 0, .int .u8 0, .int .u8 0, .int .u8 0, .int .u8 0, .int .u8 0, .int .u8 0, .int .u8 0, .int .u8 0, .int .u8 0, .int .u8 0, .int .u8 0, .int .u8 0, .int .u8 0, .int .u8 0, .int .u8 0, .int .u8 0, .int .u8 0, .int .u8 0, .int .u8 0, .int .u8 0, .int .u8 0, .int .u8 0, .int .u8 0, .int .u8 0, .int .u8 0, .int .u8 0, .int .u8 0, .int .u8 0, .int .u8 0, .int .u8 0, .int .u8 0, .int .u8 0] : Array Value) = arr [45] := by
  simp [arr, bArr, List.range, List.range.loop]
theorem Tryd.len26 : Tryd.prog.arrayLen 26 = 48 := by kernel_rfl
theorem Tryd.ht26 : Tryd.prog.underlying 26 = some (.array (Tryd.prog.arrayLen 26) (Tryd.prog.elem 26)) := by kernel_rfl
theorem Tryd.size26 (w : World) : (sizeOf (Tryd.prog.elem 26)).run Tryd.prog w = .ok 1 w := by kernel_rfl
theorem slice26 (b k : Nat) (hk : k ≤ 48) (W : World) :
    (Instr.sliceAt 26 (.pointer (some ⟨b, 0, none⟩)) none (some (.int .i64 (k : Int))) none).run Tryd.prog W = .ok (.slice (some ⟨b, 0, none⟩) k 48) W := by
  rw [run_sliceAt_array_h W 26 ⟨b, 0, none⟩ Tryd.ht26 .i64 k (by omega) (by rw [Tryd.len26]; omega), Tryd.size26, Tryd.len26]
  simp [Result.andThen, slicedAt, Addr.add]
theorem conv_arr (l : List UInt8) (m : Nat) (hm : l.length = m) (h48 : m ≤ 48) (W : World) :
    (convert 27 9 (.slice (some ⟨W.heap.size, 0, none⟩) m 48)).run Tryd.prog (W.alloc (.cells (arr l) 26)) = .ok (.string ⟨l.toArray⟩) (W.alloc (.cells (arr l) 26)) := by
  subst hm
  refine run_convert_bytes_back _ 27 9 5 ⟨W.heap.size, 0, none⟩ 48 l Tryd.underlying27 Tryd.underlying5 Tryd.underlying9 (fun j hj => ?_)
  rw [show (⟨W.heap.size, 0, none⟩ : Addr).add j = ⟨W.heap.size, j, none⟩ from by rw [Lib.add_plain, Nat.zero_add], World.cell?_alloc_new, arr_get l j (by omega)]
  simp [List.getD, hj]
theorem turns_length (u p width : Nat) : ∀ m, (turns u p width m).length ≤ 2 * m
  | 0 => by simp [turns]
  | m + 1 => by
    have h1 := turns_length u p width m
    have h2 : (turn u p (width - 1 - m)).length ≤ 2 := by unfold turn; split <;> simp
    rw [turns, List.length_append]
    omega
theorem dg_zero {u j : Nat} (h : Lib.nDigits u ≤ j) : Lib.dg u j = 48 := by
  have h1 := Lib.lt_pow_nDigits u
  have h2 : 10 ^ Lib.nDigits u ≤ 10 ^ j := Nat.pow_le_pow_right (by omega) h
  unfold Lib.dg
  rw [Nat.div_eq_of_lt (by omega)]
  rfl
theorem dec_at {u j k : Nat} (hk : k = Lib.nDigits u) (h : j < k) : (Lib.decDigits u)[k - 1 - j]'(by rw [Lib.decDigits_length]; omega) = Lib.dg u j := by
  subst hk
  simp only [Lib.decDigits_eq, List.getElem_map, List.getElem_range]
  congr 1
  omega

theorem turns_step (u p width j : Nat) (h : j + 1 ≤ width) : turns u p width (width - j) = turns u p width (width - (j + 1)) ++ turn u p j := by
  obtain ⟨d, hd⟩ : ∃ d, width - j = d + 1 := ⟨width - j - 1, by omega⟩
  rw [hd, turns, show width - (j + 1) = d by omega, show width - 1 - d = j by omega]
theorem ret_model {u p wd : Nat} {l : List UInt8} (hw : wd = p + Lib.nDigits (u / 10 ^ p)) (hl : l = [] ++ turns u p wd (wd - 0)) : Ending.returned (.string ⟨l.toArray⟩) = .returned (.string ⟨(fixedU u p).toArray⟩) := by
  subst hl hw
  rw [Nat.sub_zero, turns_all u p _ rfl]
  rfl
theorem ret_model_neg {u p wd : Nat} {l : List UInt8} (hw : wd = p + Lib.nDigits (u / 10 ^ p)) (hl : l = [45] ++ turns u p wd (wd - 0)) : Ending.returned (.string ⟨l.toArray⟩) = .returned (.string ⟨(45 :: fixedU u p).toArray⟩) := by
  subst hl hw
  rw [Nat.sub_zero, turns_all u p _ rfl]
  rfl

theorem wrap_neg' (u : Nat) (h0 : 1 ≤ u) (h : u ≤ 9223372036854775808) : IntKind.u64.wrap (-IntKind.u64.wrap (-(u : Int))) = (u : Int) := by
  rw [IntKind.wrap_u64, IntKind.wrap_u64]
  omega

set_option maxHeartbeats 1600000 in
theorem model_pos (u p : Nat) (hu : u ≤ 9223372036854775807) (hp : p ≤ 19) (w : World) :
    Calls Tryd.prog 7 #[.int .i64 u, .int .i64 p] w fun e w' => e = .returned (.string ⟨(fixedU u p).toArray⟩) ∧ Below w.heap.size w w' := by
  go_enter Tryd.func7, Tryd.ntmps7
  go_wp2_with fail
  refine (utoa_calls u (by omega) _).mono ?_
  rintro e W0 ⟨rfl, hAB⟩
  have hb0 : Below w.heap.size w W0 := by
    obtain ⟨A, B, rfl⟩ := hAB
    exact ((Below.refl _ _).alloc (Nat.le_refl _) _).alloc (by simp) _
  clear hAB
  have hlD := Lib.decDigits_length u
  have hk20 : Lib.nDigits u ≤ 20 := nd_20 (by omega)
  have hk1 := Lib.nDigits_pos u
  have hwid := width_is u p
  obtain ⟨k, hk⟩ : ∃ k, k = Lib.nDigits u := ⟨_, rfl⟩
  have hat : ∀ j, j < k → ∃ h, (Lib.decDigits u)[k - 1 - j]'h = Lib.dg u j := fun j hj => ⟨_, dec_at hk hj⟩
  rw [← hk] at hlD hk20 hk1 hwid
  have Hk := Lib.hid hk
  have HA := Lib.hid hat
  clear hk hat
  generalize Lib.decDigits u = D at *
  by_cases hw : k < p + 1
  · rw [if_pos hw] at hwid
    have HW := Lib.hid hwid
    clear hwid
    go_wp2
    go_loopw [10, 11] (fun mt it wr => ∃ (r m : Nat) (l : List UInt8), r ≤ p + 1 ∧ mt = .int .i64 m ∧ it = .int .i64 ((r : Int) - 1) ∧ Hid (l = [] ++ turns u p (p + 1) (p + 1 - r)) ∧ Hid (l.length = m) ∧ m ≤ 2 * (p + 1 - r) + 1 ∧ wr = W0.alloc (.cells (arr l) 26)) (fun _ it _ => (intOf it + 1).toNat)
    case atStart => exact ⟨p + 1, 0, [], Nat.le_refl _, rfl, by go_num, by simp [turns, Hid], rfl, by omega, by rw [arr_nil]⟩
    case round =>
      obtain ⟨r, m, l, hr, rfl, rfl, Hl, Hm, hmb, rfl⟩ := hrel
      rcases r with _ | j
      · have hcv := conv_arr l m Hm.out (by omega) W0
        have hsl := slice26 W0.heap.size m (by omega)
        go_wp2
        go_ret
        exact ⟨ret_model HW.out Hl.out, (hb0.alloc hb0.size _)⟩
      · have hg1 : (arr l)[m]? = some (.int .u8 ((l.getD m 0).toNat : Int)) := arr_get l m (by omega)
        by_cases hdot : j + 1 = p
        · have hd : ((j : Int) == (p : Int) - 1) = true := beq_iff_eq.2 (by omega)
          obtain ⟨l2, hl2⟩ : ∃ l2, l2 = l ++ [46] := ⟨_, rfl⟩
          obtain ⟨l3, hl3⟩ : ∃ l3, l3 = l2 ++ [Lib.dg u j] := ⟨_, rfl⟩
          have hset : (arr l).setIfInBounds m (.int .u8 46) = arr l2 := by rw [← Hm.out, hl2]; exact arr_put l 46
          have hln2 : l2.length = m + 1 := by rw [hl2, List.length_append, Hm.out]; rfl
          have hset3 : (arr l2).setIfInBounds (m + 1) (.int .u8 ((Lib.dg u j).toNat : Int)) = arr l3 := by rw [← hln2, hl3]; exact arr_put l2 _
          have hg2 : (arr l2)[m + 1]? = some (.int .u8 ((l2.getD (m + 1) 0).toNat : Int)) := arr_get l2 (m + 1) (by omega)
          have HM : Hid (l3.length = m + 1 + 1) := by show l3.length = m + 1 + 1; rw [hl3, List.length_append, hln2]; rfl
          have HL : Hid (l3 = [] ++ turns u p (p + 1) (p + 1 - j)) := by
            show l3 = _
            rw [turns_step u p (p + 1) j (by omega), turn, if_pos hdot, hl3, hl2, Hl.out]
            simp
          clear hl2 hl3 hln2 hdot Hm Hl
          by_cases hjk : j < k
          · obtain ⟨hx, hdj⟩ := HA.out j hjk
            have hdg : ∀ h, ((⟨D.toArray⟩ : ByteArray)[k - 1 - j]'h) = Lib.dg u j := fun h => hdj
            clear hdj
            go_wp2
            go_roundw
            case rel => first | exact ⟨j, m + 1 + 1, l3, by omega, by go_num, by go_num, HL, HM, by omega, rfl⟩ | ((repeat apply Exists.intro); exact ⟨⟨j, m + 1 + 1, l3, by omega, by go_num, by go_num, HL, HM, by omega, rfl⟩, rfl⟩)
            case measure => simp [intOf]
          · skip
            rw [dg_zero (by rw [← Hk.out]; omega)] at hset3
            have hset4 : (arr l2).setIfInBounds (m + 1) (.int .u8 48) = arr l3 := hset3
            clear hset3
            go_wp2
            go_roundw
            case rel => first | exact ⟨j, m + 1 + 1, l3, by omega, by go_num, by go_num, HL, HM, by omega, rfl⟩ | ((repeat apply Exists.intro); exact ⟨⟨j, m + 1 + 1, l3, by omega, by go_num, by go_num, HL, HM, by omega, rfl⟩, rfl⟩)
            case measure => simp [intOf]
        · have hd : ((j : Int) == (p : Int) - 1) = false := beq_eq_false_iff_ne.2 (by omega)
          obtain ⟨l3, hl3⟩ : ∃ l3, l3 = l ++ [Lib.dg u j] := ⟨_, rfl⟩
          have hset3 : (arr l).setIfInBounds m (.int .u8 ((Lib.dg u j).toNat : Int)) = arr l3 := by rw [← Hm.out, hl3]; exact arr_put l _
          have HM : Hid (l3.length = m + 1) := by show l3.length = m + 1; rw [hl3, List.length_append, Hm.out]; rfl
          have HL : Hid (l3 = [] ++ turns u p (p + 1) (p + 1 - j)) := by
            show l3 = _
            rw [turns_step u p (p + 1) j (by omega), turn, if_neg hdot, hl3, Hl.out, List.append_assoc]
          clear hl3 hdot Hm Hl
          by_cases hjk : j < k
          · obtain ⟨hx, hdj⟩ := HA.out j hjk
            have hdg : ∀ h, ((⟨D.toArray⟩ : ByteArray)[k - 1 - j]'h) = Lib.dg u j := fun h => hdj
            clear hdj
            go_wp2
            go_roundw
            case rel => first | exact ⟨j, m + 1, l3, by omega, by go_num, by go_num, HL, HM, by omega, rfl⟩ | ((repeat apply Exists.intro); exact ⟨⟨j, m + 1, l3, by omega, by go_num, by go_num, HL, HM, by omega, rfl⟩, rfl⟩)
            case measure => simp [intOf]
          · skip
            rw [dg_zero (by rw [← Hk.out]; omega)] at hset3
            have hset4 : (arr l).setIfInBounds m (.int .u8 48) = arr l3 := hset3
            clear hset3
            go_wp2
            go_roundw
            case rel => first | exact ⟨j, m + 1, l3, by omega, by go_num, by go_num, HL, HM, by omega, rfl⟩ | ((repeat apply Exists.intro); exact ⟨⟨j, m + 1, l3, by omega, by go_num, by go_num, HL, HM, by omega, rfl⟩, rfl⟩)
            case measure => simp [intOf]
  · rw [if_neg hw] at hwid
    have HW := Lib.hid hwid
    clear hwid
    go_wp2
    go_loopw [10, 11] (fun mt it wr => ∃ (r m : Nat) (l : List UInt8), r ≤ k ∧ mt = .int .i64 m ∧ it = .int .i64 ((r : Int) - 1) ∧ Hid (l = [] ++ turns u p (k) (k - r)) ∧ Hid (l.length = m) ∧ m ≤ 2 * (k - r) + 1 ∧ wr = W0.alloc (.cells (arr l) 26)) (fun _ it _ => (intOf it + 1).toNat)
    case atStart => exact ⟨k, 0, [], Nat.le_refl _, rfl, by go_num, by simp [turns, Hid], rfl, by omega, by rw [arr_nil]⟩
    case round =>
      obtain ⟨r, m, l, hr, rfl, rfl, Hl, Hm, hmb, rfl⟩ := hrel
      rcases r with _ | j
      · have hcv := conv_arr l m Hm.out (by omega) W0
        have hsl := slice26 W0.heap.size m (by omega)
        go_wp2
        go_ret
        exact ⟨ret_model HW.out Hl.out, (hb0.alloc hb0.size _)⟩
      · have hg1 : (arr l)[m]? = some (.int .u8 ((l.getD m 0).toNat : Int)) := arr_get l m (by omega)
        by_cases hdot : j + 1 = p
        · have hd : ((j : Int) == (p : Int) - 1) = true := beq_iff_eq.2 (by omega)
          obtain ⟨l2, hl2⟩ : ∃ l2, l2 = l ++ [46] := ⟨_, rfl⟩
          obtain ⟨l3, hl3⟩ : ∃ l3, l3 = l2 ++ [Lib.dg u j] := ⟨_, rfl⟩
          have hset : (arr l).setIfInBounds m (.int .u8 46) = arr l2 := by rw [← Hm.out, hl2]; exact arr_put l 46
          have hln2 : l2.length = m + 1 := by rw [hl2, List.length_append, Hm.out]; rfl
          have hset3 : (arr l2).setIfInBounds (m + 1) (.int .u8 ((Lib.dg u j).toNat : Int)) = arr l3 := by rw [← hln2, hl3]; exact arr_put l2 _
          have hg2 : (arr l2)[m + 1]? = some (.int .u8 ((l2.getD (m + 1) 0).toNat : Int)) := arr_get l2 (m + 1) (by omega)
          have HM : Hid (l3.length = m + 1 + 1) := by show l3.length = m + 1 + 1; rw [hl3, List.length_append, hln2]; rfl
          have HL : Hid (l3 = [] ++ turns u p (k) (k - j)) := by
            show l3 = _
            rw [turns_step u p (k) j (by omega), turn, if_pos hdot, hl3, hl2, Hl.out]
            simp
          clear hl2 hl3 hln2 hdot Hm Hl
          by_cases hjk : j < k
          · obtain ⟨hx, hdj⟩ := HA.out j hjk
            have hdg : ∀ h, ((⟨D.toArray⟩ : ByteArray)[k - 1 - j]'h) = Lib.dg u j := fun h => hdj
            clear hdj
            go_wp2
            go_roundw
            case rel => first | exact ⟨j, m + 1 + 1, l3, by omega, by go_num, by go_num, HL, HM, by omega, rfl⟩ | ((repeat apply Exists.intro); exact ⟨⟨j, m + 1 + 1, l3, by omega, by go_num, by go_num, HL, HM, by omega, rfl⟩, rfl⟩)
            case measure => simp [intOf]
          · exact absurd (show j < k by omega) hjk
        · have hd : ((j : Int) == (p : Int) - 1) = false := beq_eq_false_iff_ne.2 (by omega)
          obtain ⟨l3, hl3⟩ : ∃ l3, l3 = l ++ [Lib.dg u j] := ⟨_, rfl⟩
          have hset3 : (arr l).setIfInBounds m (.int .u8 ((Lib.dg u j).toNat : Int)) = arr l3 := by rw [← Hm.out, hl3]; exact arr_put l _
          have HM : Hid (l3.length = m + 1) := by show l3.length = m + 1; rw [hl3, List.length_append, Hm.out]; rfl
          have HL : Hid (l3 = [] ++ turns u p (k) (k - j)) := by
            show l3 = _
            rw [turns_step u p (k) j (by omega), turn, if_neg hdot, hl3, Hl.out, List.append_assoc]
          clear hl3 hdot Hm Hl
          by_cases hjk : j < k
          · obtain ⟨hx, hdj⟩ := HA.out j hjk
            have hdg : ∀ h, ((⟨D.toArray⟩ : ByteArray)[k - 1 - j]'h) = Lib.dg u j := fun h => hdj
            clear hdj
            go_wp2
            go_roundw
            case rel => first | exact ⟨j, m + 1, l3, by omega, by go_num, by go_num, HL, HM, by omega, rfl⟩ | ((repeat apply Exists.intro); exact ⟨⟨j, m + 1, l3, by omega, by go_num, by go_num, HL, HM, by omega, rfl⟩, rfl⟩)
            case measure => simp [intOf]
          · exact absurd (show j < k by omega) hjk

set_option maxHeartbeats 1600000 in
theorem model_neg (u p : Nat) (hu0 : 1 ≤ u) (hu : u ≤ 9223372036854775808) (hp : p ≤ 19) (w : World) :
    Calls Tryd.prog 7 #[.int .i64 (-(u : Int)), .int .i64 p] w fun e w' => e = .returned (.string ⟨(45 :: fixedU u p).toArray⟩) ∧ Below w.heap.size w w' := by
  go_enter Tryd.func7, Tryd.ntmps7
  go_wp2_with fail
  rw [wrap_neg' u hu0 hu]
  refine (utoa_calls u (by omega) _).mono ?_
  rintro e W0 ⟨rfl, hAB⟩
  have hb0 : Below w.heap.size w W0 := by
    obtain ⟨A, B, rfl⟩ := hAB
    exact ((Below.refl _ _).alloc (Nat.le_refl _) _).alloc (by simp) _
  clear hAB
  have hlD := Lib.decDigits_length u
  have hk20 : Lib.nDigits u ≤ 20 := nd_20 (by omega)
  have hk1 := Lib.nDigits_pos u
  have hwid := width_is u p
  obtain ⟨k, hk⟩ : ∃ k, k = Lib.nDigits u := ⟨_, rfl⟩
  have hat : ∀ j, j < k → ∃ h, (Lib.decDigits u)[k - 1 - j]'h = Lib.dg u j := fun j hj => ⟨_, dec_at hk hj⟩
  rw [← hk] at hlD hk20 hk1 hwid
  have Hk := Lib.hid hk
  have HA := Lib.hid hat
  clear hk hat
  generalize Lib.decDigits u = D at *
  by_cases hw : k < p + 1
  · rw [if_pos hw] at hwid
    have HW := Lib.hid hwid
    clear hwid
    go_wp2
    go_loopw [10, 11] (fun mt it wr => ∃ (r m : Nat) (l : List UInt8), r ≤ p + 1 ∧ mt = .int .i64 m ∧ it = .int .i64 ((r : Int) - 1) ∧ Hid (l = [45] ++ turns u p (p + 1) (p + 1 - r)) ∧ Hid (l.length = m) ∧ m ≤ 2 * (p + 1 - r) + 1 ∧ wr = W0.alloc (.cells (arr l) 26)) (fun _ it _ => (intOf it + 1).toNat)
    case atStart => exact ⟨p + 1, 1, [45], Nat.le_refl _, rfl, by go_num, by simp [turns, Hid], rfl, by omega, by rw [arr_minus]⟩
    case round =>
      obtain ⟨r, m, l, hr, rfl, rfl, Hl, Hm, hmb, rfl⟩ := hrel
      rcases r with _ | j
      · have hcv := conv_arr l m Hm.out (by omega) W0
        have hsl := slice26 W0.heap.size m (by omega)
        go_wp2
        go_ret
        exact ⟨ret_model_neg HW.out Hl.out, (hb0.alloc hb0.size _)⟩
      · have hg1 : (arr l)[m]? = some (.int .u8 ((l.getD m 0).toNat : Int)) := arr_get l m (by omega)
        by_cases hdot : j + 1 = p
        · have hd : ((j : Int) == (p : Int) - 1) = true := beq_iff_eq.2 (by omega)
          obtain ⟨l2, hl2⟩ : ∃ l2, l2 = l ++ [46] := ⟨_, rfl⟩
          obtain ⟨l3, hl3⟩ : ∃ l3, l3 = l2 ++ [Lib.dg u j] := ⟨_, rfl⟩
          have hset : (arr l).setIfInBounds m (.int .u8 46) = arr l2 := by rw [← Hm.out, hl2]; exact arr_put l 46
          have hln2 : l2.length = m + 1 := by rw [hl2, List.length_append, Hm.out]; rfl
          have hset3 : (arr l2).setIfInBounds (m + 1) (.int .u8 ((Lib.dg u j).toNat : Int)) = arr l3 := by rw [← hln2, hl3]; exact arr_put l2 _
          have hg2 : (arr l2)[m + 1]? = some (.int .u8 ((l2.getD (m + 1) 0).toNat : Int)) := arr_get l2 (m + 1) (by omega)
          have HM : Hid (l3.length = m + 1 + 1) := by show l3.length = m + 1 + 1; rw [hl3, List.length_append, hln2]; rfl
          have HL : Hid (l3 = [45] ++ turns u p (p + 1) (p + 1 - j)) := by
            show l3 = _
            rw [turns_step u p (p + 1) j (by omega), turn, if_pos hdot, hl3, hl2, Hl.out]
            simp
          clear hl2 hl3 hln2 hdot Hm Hl
          by_cases hjk : j < k
          · obtain ⟨hx, hdj⟩ := HA.out j hjk
            have hdg : ∀ h, ((⟨D.toArray⟩ : ByteArray)[k - 1 - j]'h) = Lib.dg u j := fun h => hdj
            clear hdj
            go_wp2
            go_roundw
            case rel => first | exact ⟨j, m + 1 + 1, l3, by omega, by go_num, by go_num, HL, HM, by omega, rfl⟩ | ((repeat apply Exists.intro); exact ⟨⟨j, m + 1 + 1, l3, by omega, by go_num, by go_num, HL, HM, by omega, rfl⟩, rfl⟩)
            case measure => simp [intOf]
          · skip
            rw [dg_zero (by rw [← Hk.out]; omega)] at hset3
            have hset4 : (arr l2).setIfInBounds (m + 1) (.int .u8 48) = arr l3 := hset3
            clear hset3
            go_wp2
            go_roundw
            case rel => first | exact ⟨j, m + 1 + 1, l3, by omega, by go_num, by go_num, HL, HM, by omega, rfl⟩ | ((repeat apply Exists.intro); exact ⟨⟨j, m + 1 + 1, l3, by omega, by go_num, by go_num, HL, HM, by omega, rfl⟩, rfl⟩)
            case measure => simp [intOf]
        · have hd : ((j : Int) == (p : Int) - 1) = false := beq_eq_false_iff_ne.2 (by omega)
          obtain ⟨l3, hl3⟩ : ∃ l3, l3 = l ++ [Lib.dg u j] := ⟨_, rfl⟩
          have hset3 : (arr l).setIfInBounds m (.int .u8 ((Lib.dg u j).toNat : Int)) = arr l3 := by rw [← Hm.out, hl3]; exact arr_put l _
          have HM : Hid (l3.length = m + 1) := by show l3.length = m + 1; rw [hl3, List.length_append, Hm.out]; rfl
          have HL : Hid (l3 = [45] ++ turns u p (p + 1) (p + 1 - j)) := by
            show l3 = _
            rw [turns_step u p (p + 1) j (by omega), turn, if_neg hdot, hl3, Hl.out, List.append_assoc]
          clear hl3 hdot Hm Hl
          by_cases hjk : j < k
          · obtain ⟨hx, hdj⟩ := HA.out j hjk
            have hdg : ∀ h, ((⟨D.toArray⟩ : ByteArray)[k - 1 - j]'h) = Lib.dg u j := fun h => hdj
            clear hdj
            go_wp2
            go_roundw
            case rel => first | exact ⟨j, m + 1, l3, by omega, by go_num, by go_num, HL, HM, by omega, rfl⟩ | ((repeat apply Exists.intro); exact ⟨⟨j, m + 1, l3, by omega, by go_num, by go_num, HL, HM, by omega, rfl⟩, rfl⟩)
            case measure => simp [intOf]
          · skip
            rw [dg_zero (by rw [← Hk.out]; omega)] at hset3
            have hset4 : (arr l).setIfInBounds m (.int .u8 48) = arr l3 := hset3
            clear hset3
            go_wp2
            go_roundw
            case rel => first | exact ⟨j, m + 1, l3, by omega, by go_num, by go_num, HL, HM, by omega, rfl⟩ | ((repeat apply Exists.intro); exact ⟨⟨j, m + 1, l3, by omega, by go_num, by go_num, HL, HM, by omega, rfl⟩, rfl⟩)
            case measure => simp [intOf]
  · rw [if_neg hw] at hwid
    have HW := Lib.hid hwid
    clear hwid
    go_wp2
    go_loopw [10, 11] (fun mt it wr => ∃ (r m : Nat) (l : List UInt8), r ≤ k ∧ mt = .int .i64 m ∧ it = .int .i64 ((r : Int) - 1) ∧ Hid (l = [45] ++ turns u p (k) (k - r)) ∧ Hid (l.length = m) ∧ m ≤ 2 * (k - r) + 1 ∧ wr = W0.alloc (.cells (arr l) 26)) (fun _ it _ => (intOf it + 1).toNat)
    case atStart => exact ⟨k, 1, [45], Nat.le_refl _, rfl, by go_num, by simp [turns, Hid], rfl, by omega, by rw [arr_minus]⟩
    case round =>
      obtain ⟨r, m, l, hr, rfl, rfl, Hl, Hm, hmb, rfl⟩ := hrel
      rcases r with _ | j
      · have hcv := conv_arr l m Hm.out (by omega) W0
        have hsl := slice26 W0.heap.size m (by omega)
        go_wp2
        go_ret
        exact ⟨ret_model_neg HW.out Hl.out, (hb0.alloc hb0.size _)⟩
      · have hg1 : (arr l)[m]? = some (.int .u8 ((l.getD m 0).toNat : Int)) := arr_get l m (by omega)
        by_cases hdot : j + 1 = p
        · have hd : ((j : Int) == (p : Int) - 1) = true := beq_iff_eq.2 (by omega)
          obtain ⟨l2, hl2⟩ : ∃ l2, l2 = l ++ [46] := ⟨_, rfl⟩
          obtain ⟨l3, hl3⟩ : ∃ l3, l3 = l2 ++ [Lib.dg u j] := ⟨_, rfl⟩
          have hset : (arr l).setIfInBounds m (.int .u8 46) = arr l2 := by rw [← Hm.out, hl2]; exact arr_put l 46
          have hln2 : l2.length = m + 1 := by rw [hl2, List.length_append, Hm.out]; rfl
          have hset3 : (arr l2).setIfInBounds (m + 1) (.int .u8 ((Lib.dg u j).toNat : Int)) = arr l3 := by rw [← hln2, hl3]; exact arr_put l2 _
          have hg2 : (arr l2)[m + 1]? = some (.int .u8 ((l2.getD (m + 1) 0).toNat : Int)) := arr_get l2 (m + 1) (by omega)
          have HM : Hid (l3.length = m + 1 + 1) := by show l3.length = m + 1 + 1; rw [hl3, List.length_append, hln2]; rfl
          have HL : Hid (l3 = [45] ++ turns u p (k) (k - j)) := by
            show l3 = _
            rw [turns_step u p (k) j (by omega), turn, if_pos hdot, hl3, hl2, Hl.out]
            simp
          clear hl2 hl3 hln2 hdot Hm Hl
          by_cases hjk : j < k
          · obtain ⟨hx, hdj⟩ := HA.out j hjk
            have hdg : ∀ h, ((⟨D.toArray⟩ : ByteArray)[k - 1 - j]'h) = Lib.dg u j := fun h => hdj
            clear hdj
            go_wp2
            go_roundw
            case rel => first | exact ⟨j, m + 1 + 1, l3, by omega, by go_num, by go_num, HL, HM, by omega, rfl⟩ | ((repeat apply Exists.intro); exact ⟨⟨j, m + 1 + 1, l3, by omega, by go_num, by go_num, HL, HM, by omega, rfl⟩, rfl⟩)
            case measure => simp [intOf]
          · exact absurd (show j < k by omega) hjk
        · have hd : ((j : Int) == (p : Int) - 1) = false := beq_eq_false_iff_ne.2 (by omega)
          obtain ⟨l3, hl3⟩ : ∃ l3, l3 = l ++ [Lib.dg u j] := ⟨_, rfl⟩
          have hset3 : (arr l).setIfInBounds m (.int .u8 ((Lib.dg u j).toNat : Int)) = arr l3 := by rw [← Hm.out, hl3]; exact arr_put l _
          have HM : Hid (l3.length = m + 1) := by show l3.length = m + 1; rw [hl3, List.length_append, Hm.out]; rfl
          have HL : Hid (l3 = [45] ++ turns u p (k) (k - j)) := by
            show l3 = _
            rw [turns_step u p (k) j (by omega), turn, if_neg hdot, hl3, Hl.out, List.append_assoc]
          clear hl3 hdot Hm Hl
          by_cases hjk : j < k
          · obtain ⟨hx, hdj⟩ := HA.out j hjk
            have hdg : ∀ h, ((⟨D.toArray⟩ : ByteArray)[k - 1 - j]'h) = Lib.dg u j := fun h => hdj
            clear hdj
            go_wp2
            go_roundw
            case rel => first | exact ⟨j, m + 1, l3, by omega, by go_num, by go_num, HL, HM, by omega, rfl⟩ | ((repeat apply Exists.intro); exact ⟨⟨j, m + 1, l3, by omega, by go_num, by go_num, HL, HM, by omega, rfl⟩, rfl⟩)
            case measure => simp [intOf]
          · exact absurd (show j < k by omega) hjk

/-- zzModelFixed whole. -/
theorem model_calls (n : Int) (h0 : -9223372036854775808 ≤ n) (h1 : n ≤ 9223372036854775807) (x : Int) (hx0 : 0 ≤ x) (hx1 : x ≤ 19) (w : World) :
    Calls Tryd.prog 7 #[.int .i64 n, .int .i64 x] w fun e w' => e = .returned (.string ⟨(fixed n x.toNat).toArray⟩) ∧ Below w.heap.size w w' := by
  obtain ⟨p, rfl⟩ := Int.eq_ofNat_of_zero_le hx0
  rw [Int.toNat_natCast]
  by_cases hn : n < 0
  · obtain ⟨u, hu⟩ : ∃ u : Nat, n = -(u : Int) := ⟨n.natAbs, by omega⟩
    have e : fixed n p = 45 :: fixedU u p := by
      have e1 : n.natAbs = u := by omega
      unfold fixed sgn
      rw [if_pos hn, e1]
      rfl
    rw [e, hu]
    exact model_neg u p (by omega) (by omega) (by omega) w
  · obtain ⟨u, hu⟩ : ∃ u : Nat, n = (u : Int) := ⟨n.natAbs, by omega⟩
    have e : fixed n p = fixedU u p := by
      have e1 : n.natAbs = u := by omega
      unfold fixed sgn
      rw [if_neg hn, e1]
      rfl
    rw [e, hu]
    exact model_pos u p (by omega) (by omega) w
end Go.Proofs.Qxb6617318aDoor
