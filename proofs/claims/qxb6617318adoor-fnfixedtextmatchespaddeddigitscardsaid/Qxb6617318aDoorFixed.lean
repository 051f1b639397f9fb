import Derived.Test.Qxb6617318aDoorAppend
import Derived.Test.Qxb6617318aDoorPow
import Derived.Test.Qxb6617318aDoorPlain
namespace Go.Proofs.Qxb6617318aDoor
open Go.RowKit
set_option linter.unusedVariables false

theorem buf_start (w : World) : IsBuf (w.alloc (.cells Lib.zeros24 28)) w.heap.size 0 [] := by
  refine ⟨rfl, fun j h => by simp at h, fun j h => ?_, fun j => by simp, by simp⟩
  rw [World.cell?_alloc_new, Lib.zeros24_at j h]
  rfl
theorem IsBuf.conv {W : World} {b n : Nat} {l : List UInt8} (h : IsBuf W b n l) : (convert 27 9 (.slice (some ⟨b, 0, none⟩) n 24)).run Tryd.prog W = .ok (.string ⟨l.toArray⟩) W := by
  obtain rfl := h.len
  refine run_convert_bytes_back W 27 9 5 ⟨b, 0, none⟩ 24 l Tryd.underlying27 Tryd.underlying5 Tryd.underlying9 (fun j hj => ?_)
  rw [Lib.add_plain, Nat.zero_add]
  exact h.cells j hj
theorem src_one (W : World) (c : UInt8) : Src Tryd.prog 1 27 (.slice (some ⟨W.heap.size, 0, none⟩) 1 1) [c].length (Lib.byteCells [c]) (W.alloc (.cells #[.int .u8 (c.toNat : Int)] 5)) := by
  refine Src.ofSlice _ Tryd.underlying27 _ _ 1 _ (by simp [Lib.byteCells]) (fun j v hj => ?_) (Lib.byteCells_one _)
  have h0 : j = 0 := by
    have := (List.getElem?_eq_some_iff.1 hj).1
    simp [Lib.byteCells] at this
    exact this
  subst h0
  simp [Lib.byteCells] at hj
  subst hj
  rw [Lib.add_plain, Nat.zero_add, World.cell?_alloc_new]
  rfl
theorem quot_is (u p : Nat) (h : u < 18446744073709551616) : IntKind.u64.wrap ((u : Int) / p10 p) = ((u / 10 ^ p : Nat) : Int) := by
  unfold p10
  rw [← Int.natCast_ediv, IntKind.wrap_u64]
  have := Nat.div_le_self u (10 ^ p)
  generalize u / 10 ^ p = q at *
  omega
theorem rem_is (u p : Nat) : (u : Int) % p10 p = ((u % 10 ^ p : Nat) : Int) := by
  unfold p10
  rw [← Int.natCast_emod]
theorem unit_is (p : Nat) : p10 p / 10 = ((10 ^ (p - 0) / 10 : Nat) : Int) := by
  unfold p10
  rw [Nat.sub_zero]
  omega
theorem unit_lt (p t : Nat) (h : p ≤ 19) : 10 ^ (p - t) / 10 < 18446744073709551616 := by
  have h1 : 10 ^ (p - t) ≤ 10 ^ 19 := Nat.pow_le_pow_right (by omega) (by omega)
  omega
theorem digit_is (u p t f x y : Nat) (h : t < p) (hf : f = u % 10 ^ p) (hx : x = 10 ^ (p - t) / 10) (hy : y = f / x) : (48 + (y : Int) % 10) = ((Lib.dg u (p - 1 - t)).toNat : Int) := by
  have h1 := frac_digit u p t h
  unfold Lib.dg
  rw [← hf, ← hx, ← hy] at h1
  rw [← h1, UInt8.toNat_ofNat']
  omega
theorem quot_wrap {f x y : Nat} (hy : y = f / x) (hf : f < 18446744073709551616) : IntKind.u64.wrap ((f : Int) / (x : Int)) = (y : Int) := by
  have h1 := Nat.div_le_self f x
  rw [← hy] at h1
  rw [← Int.natCast_ediv, ← hy, IntKind.wrap_u64]
  omega
theorem buf_neg (w : World) : IsBuf ((w.alloc (.cells (Lib.zeros24.setIfInBounds 0 (.int .u8 45)) 28)).alloc (.cells #[.int .u8 45] 5)) w.heap.size 1 [45] := by
  have h0 : IsBuf (w.alloc (.cells (Lib.zeros24.setIfInBounds 0 (.int .u8 45)) 28)) w.heap.size 1 [45] := by
    refine ⟨rfl, fun j h => ?_, fun j h => ?_, fun j => World.frozen?_alloc_new _ _ _ _, by simp⟩
    · simp at h
      subst h
      rw [World.cell?_alloc_new]
      rfl
    · rw [World.cell?_alloc_new, Array.getElem?_setIfInBounds]
      split
      · rename_i h0; subst h0; rfl
      · rw [Lib.zeros24_at j h]; rfl
  exact h0.alloc _
theorem ret_pos {u p q : Nat} {L : List UInt8} (h : ¬ p = 0) (hq : u / 10 ^ p = q) (hL : ([] ++ Lib.decDigits q ++ [46]) ++ (frac u p).take p = L) : Ending.returned (.string ⟨L.toArray⟩) = .returned (.string ⟨(fixedU u p).toArray⟩) := by
  subst hL
  unfold fixedU
  rw [hq, if_neg h, List.take_of_length_le (by rw [frac_length]; omega)]
  simp
theorem ret_neg {u p q : Nat} {L : List UInt8} (h : ¬ p = 0) (hq : u / 10 ^ p = q) (hL : ([45] ++ Lib.decDigits q ++ [46]) ++ (frac u p).take p = L) : Ending.returned (.string ⟨L.toArray⟩) = .returned (.string ⟨(45 :: fixedU u p).toArray⟩) := by
  subst hL
  unfold fixedU
  rw [hq, if_neg h, List.take_of_length_le (by rw [frac_length]; omega)]
  simp
theorem wrap_neg (u : Nat) (h0 : 1 ≤ u) (h : u ≤ 9223372036854775808) : IntKind.u64.wrap (-IntKind.u64.wrap (-(u : Int))) = (u : Int) := by
  rw [IntKind.wrap_u64, IntKind.wrap_u64]
  omega

set_option maxHeartbeats 1600000 in
theorem fixedText_pos (u p : Nat) (hu : u ≤ 9223372036854775807) (hp : p ≤ 19) (w : World) (htab : Lib.TabIs Tryd.prog w tabName .u64 Lib.pow10Tab) :
    Calls Tryd.prog 8 #[.int .i64 u, .int .i64 p] w fun e w' => e = .returned (.string ⟨(fixedU u p).toArray⟩) ∧ Below w.heap.size w w' := by
  have HT := Lib.hid htab
  clear htab
  have hsl := slice28 w.heap.size 0 (by omega)
  go_enter Tryd.func8, Tryd.ntmps8
  go_wp2_with fail
  refine (pow10_calls p hp _).mono ?_
  rintro e W1 ⟨rfl, hW1⟩
  have hI1 : IsBuf W1 w.heap.size 0 [] := by rw [hW1]; exact buf_start w
  have hb1 : Below w.heap.size w W1 := by rw [hW1]; exact (Below.refl _ _).alloc (Nat.le_refl _) _
  clear hW1
  have hp10 := p10_le p hp
  have HQ : Hid (u / 10 ^ p < 18446744073709551616 ∧ (0 + (Lib.decDigits (u / 10 ^ p)).length ≤ 22 - p)) := by
    have h1 := nd_quot u p (by omega) hp
    have h2 := Nat.div_le_self u (10 ^ p)
    rw [← Lib.decDigits_length] at h1
    exact ⟨by omega, by omega⟩
  have HD : Hid (IntKind.u64.wrap ((u : Int) / p10 p) = ((u / 10 ^ p : Nat) : Int)) := quot_is u p (by omega)
  have HF : Hid ((u : Int) % p10 p = ((u % 10 ^ p : Nat) : Int)) := rem_is u p
  go_wp2_with fail
  rw [HD.out]
  refine (pubAppendUint_calls _ (u / 10 ^ p) HQ.out.1 0 [] W1 hI1 (by have := HQ.out.2; omega) ((Lib.tabBelow_of_tabIs HT.out) W1 hb1)).mono ?_
  rintro e W2 ⟨n2, rfl, hI2, hb2⟩
  replace hb2 := hb1.trans hb2
  clear hb1 hI1 hsl
  generalize hq : u / 10 ^ p = q at *
  have Hq := Lib.hid hq
  clear hq
  by_cases hp0 : p = 0
  · subst hp0
    have hcv := hI2.conv
    go_wp2
    go_ret
    exact ⟨by simp [fixedU, Hq.out.symm], hb2⟩
  have hpz : ((p : Int) == 0) = false := beq_eq_false_iff_ne.2 (by omega)
  have hsrc : Src Tryd.prog 1 27 (.slice (some ⟨W2.heap.size, 0, none⟩) 1 1) [(46 : UInt8)].length (Lib.byteCells [46]) (W2.alloc (.cells #[.int .u8 46] 5)) := src_one W2 46
  have HS := Lib.hid hsrc
  have hbS : w.heap.size ≤ W2.heap.size := hb2.size
  obtain ⟨i0, hi, hz0, hz1, hz2⟩ := info_parts Tryd.info5
  clear hsrc
  go_wp2_with (at_builtin; refine wpList_append_buf _ rfl _ _ 27 27 5 rfl i0 Tryd.underlying27 hi hz1 w.heap.size n2 _ rfl _ rfl [46] HS.out (hI2.alloc _) (by have h1 := hI2.len; have h2 := HQ.out.2; simp at h1 ⊢; omega) ?_)
  intro n3 W3 hI3 hb3
  replace hb3 := (hb2.alloc hbS _).trans hb3
  clear hb2 hI2 HS hbS
  go_wp2_with fail
  rw [HF.out, unit_is]
  obtain ⟨f, hf⟩ : ∃ f : Nat, f = u % 10 ^ p := ⟨_, rfl⟩
  rw [← hf]
  have Hf := Lib.hid hf
  have hfl : f < 18446744073709551616 := by have := Nat.mod_le u (10 ^ p); omega
  clear hf HF HD hp10
  go_loopw [6, 10] (fun tx ut wr => ∃ t m x : Nat, t ≤ p ∧ tx = .slice (some ⟨w.heap.size, 0, none⟩) m 24 ∧ ut = .int .u64 x ∧ Hid (x = 10 ^ (p - t) / 10) ∧ x < 18446744073709551616 ∧ IsBuf wr w.heap.size m (([] ++ Lib.decDigits q ++ [46]) ++ (frac u p).take t) ∧ Below w.heap.size w wr)
    (fun _ ut _ => (intOf ut).toNat)
  case atStart => exact ⟨0, n3, 10 ^ (p - 0) / 10, Nat.zero_le _, rfl, rfl, rfl, unit_lt p 0 hp, by simpa using hI3, hb3⟩
  case round =>
    clear hb3 hI3
    obtain ⟨t, m, x, ht, rfl, rfl, Hx, hxl, hIr, hbr⟩ := hrel
    by_cases hpos : 0 < x
    · have htp : t < p := by
        apply Classical.byContradiction
        intro hc
        obtain rfl : t = p := by omega
        have := Hx.out
        rw [unit_end] at this
        omega
      obtain ⟨y, hy⟩ : ∃ y : Nat, y = f / x := ⟨_, rfl⟩
      have hyw := quot_wrap hy hfl
      have hyl : y < 18446744073709551616 := by have := Nat.div_le_self f x; omega
      have HDg := Lib.hid (digit_is u p t f x y htp Hf.out Hx.out hy)
      clear hy
      have hsrc : Src Tryd.prog 1 27 (.slice (some ⟨wr.heap.size, 0, none⟩) 1 1) [Lib.dg u (p - 1 - t)].length (Lib.byteCells [Lib.dg u (p - 1 - t)]) (wr.alloc (.cells #[.int .u8 (48 + (y : Int) % 10)] 5)) := by
        rw [HDg.out]; exact src_one wr _
      have HS := Lib.hid hsrc
      clear hsrc
      have HL : Hid (m + [Lib.dg u (p - 1 - t)].length ≤ 24) := by
        have h1 := hIr.len
        have h2 := HQ.out.2
        simp [frac_length] at h1
        show m + 1 ≤ 24
        omega
      have hbS : w.heap.size ≤ wr.heap.size := hbr.size
      go_wp2_with (at_builtin; refine wpList_append_buf _ rfl _ _ 27 27 5 rfl i0 Tryd.underlying27 hi hz1 w.heap.size m _ rfl _ rfl [Lib.dg u (p - 1 - t)] HS.out (hIr.alloc _) HL.out ?_)
      intro n4 W4 hI4 hb4
      replace hb4 := (hbr.alloc hbS _).trans hb4
      clear HS HL hbS hIr hbr
      have hI5 : IsBuf W4 w.heap.size n4 (([] ++ Lib.decDigits q ++ [46]) ++ (frac u p).take (t + 1)) := by
        rw [frac_step u p t htp, ← List.append_assoc]
        simpa using hI4
      have Hx5 : Hid (x / 10 = 10 ^ (p - (t + 1)) / 10) := by
        show x / 10 = _
        rw [Hx.out, unit_step p t htp]
      clear hI4
      go_wp2
      go_roundw
      case rel =>
        (repeat apply Exists.intro)
        exact ⟨⟨t + 1, n4, x / 10, by omega, rfl, by go_num, Hx5, by omega, hI5, hb4⟩, rfl⟩
      case measure => simp [intOf]; omega
    · obtain rfl : t = p := by
        apply Classical.byContradiction
        intro hc
        have h1 := unit_pos p t (by omega)
        rw [← Hx.out] at h1
        omega
      have hcv := hIr.conv
      generalize hLL : ([] ++ Lib.decDigits q ++ [46]) ++ (frac u t).take t = LL at hcv
      have HLL := Lib.hid hLL
      clear hLL hIr
      go_wp2
      go_ret
      exact ⟨ret_pos hp0 Hq.out HLL.out, hbr⟩

set_option maxHeartbeats 1600000 in
theorem fixedText_neg (u p : Nat) (hu0 : 1 ≤ u) (hu : u ≤ 9223372036854775808) (hp : p ≤ 19) (w : World) (htab : Lib.TabIs Tryd.prog w tabName .u64 Lib.pow10Tab) :
    Calls Tryd.prog 8 #[.int .i64 (-(u : Int)), .int .i64 p] w fun e w' => e = .returned (.string ⟨(45 :: fixedU u p).toArray⟩) ∧ Below w.heap.size w w' := by
  have HT := Lib.hid htab
  clear htab
  have hsl := slice28 w.heap.size 0 (by omega)
  go_enter Tryd.func8, Tryd.ntmps8
  go_wp2_with fail
  refine (pow10_calls p hp _).mono ?_
  rintro e W1 ⟨rfl, hW1⟩
  have hI1 : IsBuf W1 w.heap.size 1 [45] := by rw [hW1]; exact buf_neg w
  have hb1 : Below w.heap.size w W1 := by rw [hW1]; exact ((Below.refl _ _).alloc (Nat.le_refl _) _).alloc (by simp) _
  clear hW1
  rw [wrap_neg u hu0 hu]
  have hp10 := p10_le p hp
  have HQ : Hid (u / 10 ^ p < 18446744073709551616 ∧ (1 + (Lib.decDigits (u / 10 ^ p)).length ≤ 22 - p)) := by
    have h1 := nd_quot u p (by omega) hp
    have h2 := Nat.div_le_self u (10 ^ p)
    rw [← Lib.decDigits_length] at h1
    exact ⟨by omega, by omega⟩
  have HD : Hid (IntKind.u64.wrap ((u : Int) / p10 p) = ((u / 10 ^ p : Nat) : Int)) := quot_is u p (by omega)
  have HF : Hid ((u : Int) % p10 p = ((u % 10 ^ p : Nat) : Int)) := rem_is u p
  go_wp2_with fail
  rw [HD.out]
  refine (pubAppendUint_calls _ (u / 10 ^ p) HQ.out.1 1 [45] W1 hI1 (by have := HQ.out.2; omega) ((Lib.tabBelow_of_tabIs HT.out) W1 hb1)).mono ?_
  rintro e W2 ⟨n2, rfl, hI2, hb2⟩
  replace hb2 := hb1.trans hb2
  clear hb1 hI1 hsl
  generalize hq : u / 10 ^ p = q at *
  have Hq := Lib.hid hq
  clear hq
  by_cases hp0 : p = 0
  · subst hp0
    have hcv := hI2.conv
    go_wp2
    go_ret
    exact ⟨by simp [fixedU, Hq.out.symm], hb2⟩
  have hpz : ((p : Int) == 0) = false := beq_eq_false_iff_ne.2 (by omega)
  have hsrc : Src Tryd.prog 1 27 (.slice (some ⟨W2.heap.size, 0, none⟩) 1 1) [(46 : UInt8)].length (Lib.byteCells [46]) (W2.alloc (.cells #[.int .u8 46] 5)) := src_one W2 46
  have HS := Lib.hid hsrc
  have hbS : w.heap.size ≤ W2.heap.size := hb2.size
  obtain ⟨i0, hi, hz0, hz1, hz2⟩ := info_parts Tryd.info5
  clear hsrc
  go_wp2_with (at_builtin; refine wpList_append_buf _ rfl _ _ 27 27 5 rfl i0 Tryd.underlying27 hi hz1 w.heap.size n2 _ rfl _ rfl [46] HS.out (hI2.alloc _) (by have h1 := hI2.len; have h2 := HQ.out.2; simp at h1 ⊢; omega) ?_)
  intro n3 W3 hI3 hb3
  replace hb3 := (hb2.alloc hbS _).trans hb3
  clear hb2 hI2 HS hbS
  go_wp2_with fail
  rw [HF.out, unit_is]
  obtain ⟨f, hf⟩ : ∃ f : Nat, f = u % 10 ^ p := ⟨_, rfl⟩
  rw [← hf]
  have Hf := Lib.hid hf
  have hfl : f < 18446744073709551616 := by have := Nat.mod_le u (10 ^ p); omega
  clear hf HF HD hp10
  go_loopw [6, 10] (fun tx ut wr => ∃ t m x : Nat, t ≤ p ∧ tx = .slice (some ⟨w.heap.size, 0, none⟩) m 24 ∧ ut = .int .u64 x ∧ Hid (x = 10 ^ (p - t) / 10) ∧ x < 18446744073709551616 ∧ IsBuf wr w.heap.size m (([45] ++ Lib.decDigits q ++ [46]) ++ (frac u p).take t) ∧ Below w.heap.size w wr)
    (fun _ ut _ => (intOf ut).toNat)
  case atStart => exact ⟨0, n3, 10 ^ (p - 0) / 10, Nat.zero_le _, rfl, rfl, rfl, unit_lt p 0 hp, by simpa using hI3, hb3⟩
  case round =>
    clear hb3 hI3
    obtain ⟨t, m, x, ht, rfl, rfl, Hx, hxl, hIr, hbr⟩ := hrel
    by_cases hpos : 0 < x
    · have htp : t < p := by
        apply Classical.byContradiction
        intro hc
        obtain rfl : t = p := by omega
        have := Hx.out
        rw [unit_end] at this
        omega
      obtain ⟨y, hy⟩ : ∃ y : Nat, y = f / x := ⟨_, rfl⟩
      have hyw := quot_wrap hy hfl
      have hyl : y < 18446744073709551616 := by have := Nat.div_le_self f x; omega
      have HDg := Lib.hid (digit_is u p t f x y htp Hf.out Hx.out hy)
      clear hy
      have hsrc : Src Tryd.prog 1 27 (.slice (some ⟨wr.heap.size, 0, none⟩) 1 1) [Lib.dg u (p - 1 - t)].length (Lib.byteCells [Lib.dg u (p - 1 - t)]) (wr.alloc (.cells #[.int .u8 (48 + (y : Int) % 10)] 5)) := by
        rw [HDg.out]; exact src_one wr _
      have HS := Lib.hid hsrc
      clear hsrc
      have HL : Hid (m + [Lib.dg u (p - 1 - t)].length ≤ 24) := by
        have h1 := hIr.len
        have h2 := HQ.out.2
        simp [frac_length] at h1
        show m + 1 ≤ 24
        omega
      have hbS : w.heap.size ≤ wr.heap.size := hbr.size
      go_wp2_with (at_builtin; refine wpList_append_buf _ rfl _ _ 27 27 5 rfl i0 Tryd.underlying27 hi hz1 w.heap.size m _ rfl _ rfl [Lib.dg u (p - 1 - t)] HS.out (hIr.alloc _) HL.out ?_)
      intro n4 W4 hI4 hb4
      replace hb4 := (hbr.alloc hbS _).trans hb4
      clear HS HL hbS hIr hbr
      have hI5 : IsBuf W4 w.heap.size n4 (([45] ++ Lib.decDigits q ++ [46]) ++ (frac u p).take (t + 1)) := by
        rw [frac_step u p t htp, ← List.append_assoc]
        simpa using hI4
      have Hx5 : Hid (x / 10 = 10 ^ (p - (t + 1)) / 10) := by
        show x / 10 = _
        rw [Hx.out, unit_step p t htp]
      clear hI4
      go_wp2
      go_roundw
      case rel =>
        (repeat apply Exists.intro)
        exact ⟨⟨t + 1, n4, x / 10, by omega, rfl, by go_num, Hx5, by omega, hI5, hb4⟩, rfl⟩
      case measure => simp [intOf]; omega
    · obtain rfl : t = p := by
        apply Classical.byContradiction
        intro hc
        have h1 := unit_pos p t (by omega)
        rw [← Hx.out] at h1
        omega
      have hcv := hIr.conv
      generalize hLL : ([45] ++ Lib.decDigits q ++ [46]) ++ (frac u t).take t = LL at hcv
      have HLL := Lib.hid hLL
      clear hLL hIr
      go_wp2
      go_ret
      exact ⟨ret_neg hp0 Hq.out HLL.out, hbr⟩
end Go.Proofs.Qxb6617318aDoor
