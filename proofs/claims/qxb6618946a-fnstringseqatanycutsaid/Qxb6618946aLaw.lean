import Derived.Test.Qxb6618946aParts
import Derived.Deep.RegionWith
namespace Go.Proofs.Qxb6618946a
open Go.RowKit
set_option linter.unusedVariables false

theorem short_list {ss : List ByteArray} (h : Short ss ss.length) : ∃ zs : List S20, zs.map (·.1) = ss := by
  refine ⟨ss.attachWith (fun s => s.size ≤ 1048576) (fun s hs => ?_), by simp⟩
  obtain ⟨j, hj, rfl⟩ := List.getElem_of_mem hs
  have := h j hj
  simpa [sAt, List.getD, hj] using this

theorem row_app {W : World} {B m : Nat} {v : Value} {l t : List UInt8} (hm : t.length = m) (h : W.ownsRow B 5 1 v (l.length + m) (Lib.byteCells l ++ Lib.byteCells t)) : Row W B v (l ++ t) := by
  subst hm
  exact ⟨by rw [List.length_append, Lib.byteCells_append]; exact h⟩
theorem i32_small (x : Int) (h0 : 0 ≤ x) (h1 : x ≤ 65536) : IntKind.u32.wrap (IntKind.i32.wrap x) = x := by
  rw [IntWalk.i32_in _ (by omega)]
  exact IntWalk.u32_in _ (by omega)
theorem i32_diff (a b u : Nat) (h : b ≤ a) (h1 : a ≤ 65536) (hu : u = a - b) : IntKind.u32.wrap (IntKind.i32.wrap (IntKind.i64.wrap ((a : Int) - b))) = (u : Int) := by
  rw [IntWalk.i64_in _ (by omega), i32_small _ (by omega) (by omega)]
  omega
theorem be4_short (u : Nat) : (be4 u).length ≤ 1099511627776 := by
  have h : (be4 u).length = 4 := rfl
  omega
theorem bound3 {a b c x : List UInt8} (h : a ++ b ++ c = x) (hx : x.length ≤ 137438953472) : a.length + b.length + c.length ≤ 137438953472 := by
  rw [← h, List.length_append, List.length_append] at hx
  exact hx
theorem Reads.len {w : World} {ao : Option Addr} {m c : Nat} {l : List UInt8} (h : Reads w (.slice ao m c) l) : l.length = m := by
  rcases h with ⟨h0, h1⟩ | ⟨ad, cap, hv, _⟩
  · simp at h0; rw [h1, h0.2.1]; rfl
  · simp at hv; exact hv.2.1.symm

set_option maxRecDepth 100000 in
set_option maxHeartbeats 8000000 in
theorem law_calls (b : Option Addr) (nb cb : Nat) (lb : List UInt8) (n : Int) (sa : Option Addr) (ns cs : Nat) (ss : List ByteArray) (k : Int) (w : World) (hnb : lb.length = nb) (hnbm : nb ≤ maxLen) (hns : ss.length = ns) (hnsm : ns ≤ maxLen) (hm : ∀ j, (sAt ss j).size ≤ maxLen)
    (hb : Reads w (.slice b nb cb) lb) (hs : ReadsS w (.slice sa ns cs) ss) :
    Calls Try.prog 4 #[.slice b nb cb, .int .i64 n, .slice sa ns cs, .int .i64 k] w fun e w' => e = .returned (.bool true) ∧ Below w.heap.size w w' := by
  have H15 := Lib.hid (fun x y => bytes_calls b nb cb x y hnbm (.slice sa ns cs) ss (by omega) hm w hs)
  have H16 := Lib.hid (seqSize_calls b nb cb hnbm (.slice sa ns cs) ss (by omega) hm w hs)
  have HB := Lib.hid hb
  have HS := Lib.hid hs
  have HNB := Lib.hid hnb
  have HNS := Lib.hid hns
  unfold maxLen at hnbm hnsm
  clear hb hs hm hnb hns
  go_enter Try.func4, Try.ntmps4
  go_wp2_with fail
  refine (H15.out _ _).mono ?_
  rintro e w' ⟨⟨r, rfl, hr⟩, rfl⟩
  cases r with
  | false =>
    clear hr
    go_wp2
    go_ret
    exact ⟨rfl, Below.refl _ _⟩
  | true =>
  have hsh := hr rfl
  obtain ⟨zs, rfl⟩ := short_list hsh
  rw [List.length_map] at HNS
  clear hr hsh
  by_cases h1 : 1048576 < nb
  · go_wp2
    go_ret
    exact ⟨rfl, Below.refl _ _⟩
  by_cases h2 : 65536 < ns
  · go_wp2
    go_ret
    exact ⟨rfl, Below.refl _ _⟩
  go_wp2_with fail
  refine H16.out.mono ?_
  rintro e w' ⟨⟨v, rfl⟩, rfl⟩
  by_cases h3 : 1048576 < v
  · go_wp2
    go_ret
    exact ⟨rfl, Below.refl _ _⟩
  by_cases h4 : k < 0
  · go_wp2
    go_ret
    exact ⟨rfl, Below.refl _ _⟩
  by_cases h5 : (ns : Int) < k
  · go_wp2
    go_ret
    exact ⟨rfl, Below.refl _ _⟩
  obtain ⟨j, rfl⟩ := Int.eq_ofNat_of_zero_le (show 0 ≤ k by omega)
  have hj : j ≤ ns := by omega
  clear H15 H16 h4 h5
  go_wp2_with fail
  refine (clone_calls _ lb w HB.out (by have := HNB.out; omega)).mono ?_
  rintro e W1 ⟨v1, rfl, r1, b1⟩
  have hm20 : zs.length ≤ 65536 := by have := HNS.out; omega
  have hl20 : lb.length ≤ 1048576 := by have := HNB.out; omega
  have HZ := Lib.hid hm20
  have HL := Lib.hid hl20
  clear hm20 hl20 h1 h2 h3 hnbm hnsm
  -- ss = zzCloneStrings(ss)
  go_wp2_with fail
  refine (cloneS_calls _ zs W1 (HS.out.below b1) HZ.out).mono ?_
  rintro e W2 ⟨v2, rfl, c2, b2⟩
  have R2 := Lib.hid (r1.reads.below b2)
  have C2 := Lib.hid c2
  have B2 : Hid (Below w.heap.size w W2) := b1.trans (b2.mono b1.size)
  clear HS HB r1 b1 b2 c2
  -- want := zzCloneBytes(b)
  go_wp2_with fail
  refine (clone_calls _ lb W2 R2.out (by have := HL.out; omega)).mono ?_
  rintro e W3 ⟨v3, rfl, r3, b3⟩
  have R3 := Lib.hid r3
  have B3 := Lib.hid b3
  clear r3 b3
  -- want = zzBE32(want, int32(n))
  obtain ⟨u, hu⟩ := u32_nat (wrap32 n)
  have HU := Lib.hid hu
  clear hu
  go_wp2_with fail
  refine (be32_calls W2.heap.size u (wrap32 n) HU.out.2 HU.out.1 v3 lb W3 R3.out B3.out.size (by have := HL.out; omega)).mono ?_
  rintro e W4 ⟨v4, rfl, r4, g4⟩
  have B4 : Hid (Below W2.heap.size W2 W4) := B3.out.trans (R3.out.belowG B3.out.size g4)
  have R4 := Lib.hid r4
  clear r4 g4 R3 B3
  obtain ⟨ao2, c2, rfl⟩ := C2.out.shape
  obtain ⟨i0, hi5, hz0, hz1, hz2⟩ := info_parts Try.info5
  -- the loop that lays each string
  go_wp2_with fail
  go_loopw [9, 10] (fun wt it wr => ∃ i : Nat, i ≤ zs.length ∧ it = .int .i64 i ∧ Hid (Row wr W2.heap.size wt (lb ++ be4 u ++ flat (zs.take i))) ∧ Hid (Below W2.heap.size W2 wr)) (fun _ it _ => zs.length - (intOf it).toNat)
  case atStart => exact ⟨0, Nat.zero_le _, rfl, by simpa [flat, Hid] using R4.out, B4⟩
  case round =>
    clear R4 B4
    obtain ⟨i, hi, rfl, Rr, Br⟩ := hrel
    by_cases hlt : i < zs.length
    · obtain ⟨ad, hidx, hcell⟩ := C2.out.idx i hlt
      have hcr : wr.cell? ad = some (.string (at20 zs i).1) := cell_later Br.out hcell
      have HC := Lib.hid hcell
      have HFl := Lib.hid (flat_take zs i hlt)
      have hsz := (at20 zs i).2
      have hzz := HZ.out
      generalize (at20 zs i).1 = s at *
      clear hcell
      have HB40 := Lib.hid (len_bound u i HL.out HZ.out)
      have HL2 : Hid ((lb ++ be4 u ++ flat (zs.take i)) ++ be4 s.size ++ s.data.toList = lb ++ be4 u ++ flat (zs.take (i + 1))) := by
        show _ = _
        rw [HFl.out, encS]
        simp only [List.append_assoc]
      generalize lb ++ be4 u ++ flat (zs.take i) = L1 at *
      clear HFl
      go_wp2_with fail
      refine (be32_calls W2.heap.size s.size s.size (IntWalk.u32_in _ (by omega)) (by omega) _ L1 wr Rr.out Br.out.size (by have := HB40.out; omega)).mono ?_
      rintro e Wa ⟨va, rfl, ra, ga⟩
      have Ba : Hid (Below W2.heap.size W2 Wa) := Br.out.trans (Rr.out.belowG Br.out.size ga)
      have hca : Wa.cell? ad = some (.string s) := cell_later Ba.out HC.out
      have Ra := Lib.hid ra
      have HLa : Hid ((L1 ++ be4 s.size).length ≤ 137438953476) := by
        show _ ≤ _
        rw [List.length_append]
        have := HB40.out
        have h4 : (be4 s.size).length = 4 := rfl
        omega
      generalize L1 ++ be4 s.size = L2 at *
      clear ra ga Rr Br HC hcr HB40
      go_wp2_with (at_builtin; refine Lib.wpList_append_own_string _ rfl _ _ 22 9 rfl W2.heap.size 5 i0 Try.underlying22 Try.underlying9 hi5 hz0 hz1 hz2 _ _ _ rfl Ra.out.own s rfl (by have := HLa.out; unfold maxLen; omega) (by have := HLa.out; omega) Ba.out.size ?_; intro vb Wb hown hgrow _; have Rb : Hid (Row Wb W2.heap.size vb (lb ++ be4 u ++ flat (zs.take (i + 1)))) := row_str hown HL2.out; have Bb : Hid (Below W2.heap.size W2 Wb) := Ba.out.trans (Ra.out.belowG Ba.out.size hgrow); clear hown hgrow)
      go_roundw
      case rel => exact ⟨i + 1, by omega, by go_num, Rb, Bb⟩
      case measure => simp [intOf]; omega
    · obtain rfl : i = zs.length := by omega
      rw [List.take_length] at Rr
      clear hlt hi
      have hzz := HZ.out
      have C5 := Lib.hid (C2.out.below Br.out)
      have R5 := Lib.hid (R2.out.below Br.out)
      have T5 := Lib.hid Rr.out.reads
      have B5 : Hid (Below w.heap.size w wr) := B2.out.trans (Br.out.mono B2.out.size)
      clear Rr Br C2 R2 B2
      -- e := wire.ZZNewEncoder(zzCloneBytes(b))
      go_wp2_with fail
      refine (clone_calls _ lb wr R5.out (by have := HL.out; omega)).mono ?_
      rintro e W6 ⟨v6, rfl, r6, b6⟩
      obtain ⟨ao6, n6, c6, rfl, H6⟩ := r6.shape
      have R6 := Lib.hid r6
      have B6 := Lib.hid b6
      clear r6 b6
      go_wp2_with fail
      refine (newEnc_calls ao6 n6 c6 W6).mono ?_
      rintro e W7 ⟨rfl, hW7⟩
      have E7 : Hid (Enc W7 wr.heap.size W6.heap.size lb) := by rw [hW7]; exact Enc.new R6.out
      have B7 : Hid (Below wr.heap.size wr W7) := by rw [hW7]; exact B6.out.alloc B6.out.size _
      have B65 : Hid (wr.heap.size ≤ W6.heap.size) := B6.out.size
      clear hW7 R6 B6 H6
      -- e.StringSeq(n, wire.ZZSeqOf(ss))
      go_wp2_with fail
      refine (seqOf_calls ao2 zs.length c2 W7).mono ?_
      rintro e W8 ⟨rfl, hW8⟩
      have E8 : Hid (Enc W8 wr.heap.size W6.heap.size lb) := by rw [hW8]; exact E7.out.alloc _
      have X8 : Hid (Boxed W8 W7.heap.size 31 (.slice ao2 zs.length c2)) := by rw [hW8]; exact Boxed.new _ _ _
      have B8 : Hid (Below wr.heap.size wr W8) := by rw [hW8]; exact B7.out.alloc B7.out.size _
      have N8 : Hid (W7.heap.size ≠ W6.heap.size) := by have := E7.out.lt; show W7.heap.size ≠ W6.heap.size; omega
      clear hW8 E7 B7
      go_wp2_with fail
      refine (stringSeq_calls wr.heap.size W6.heap.size W7.heap.size u n HU.out.2 HU.out.1 _ zs HZ.out lb W8 E8.out B65.out (by have := HL.out; omega) X8.out (C5.out.strs.below B8.out) N8.out).mono ?_
      rintro e W9 ⟨rfl, e9, b9⟩
      have B9 : Hid (Below wr.heap.size wr W9) := B8.out.trans b9
      obtain ⟨v9, x9, r9⟩ := e9.ex
      obtain ⟨ao9, n9, c9, rfl, H9⟩ := r9.shape
      have hc9 := x9.cell
      have T9 := Lib.hid r9.reads
      have C9 := Lib.hid (C5.out.below B9.out)
      have R9 := Lib.hid (R5.out.below B9.out)
      have U9 := Lib.hid (T5.out.below B9.out)
      have D9 : Hid (Below w.heap.size w W9) := B5.out.trans (B9.out.mono B5.out.size)
      clear E8 X8 B8 N8 B65 e9 b9 B9 x9 r9 C5 R5 T5 B5
      -- got := wire.ZZEncoderBytes(e)
      go_wp2_with fail
      refine (encBytes_calls _ ao9 n9 c9 W9 hc9).mono ?_
      rintro e w' ⟨rfl, rfl⟩
      clear hc9
      -- e1 := wire.ZZNewEncoder(nil)
      have hjz : j ≤ zs.length := by have := HNS.out; omega
      go_wp2_with fail
      refine (newEnc_calls none 0 0 W9).mono ?_
      rintro e W10 ⟨rfl, hW10⟩
      have E10 : Hid (Enc W10 W9.heap.size W9.heap.size []) := by rw [hW10]; exact Enc.new (Row.nil _ _)
      have B10 : Hid (Below W9.heap.size W9 W10) := by rw [hW10]; exact (Below.refl _ _).alloc (Nat.le_refl _) _
      clear hW10
      -- e1.StringSeq(k, wire.ZZSeqOf(ss[:k]))
      obtain ⟨a1, d1, hsl1, S1⟩ := C9.out.front j hjz
      have HS1 := Lib.hid S1
      clear S1
      go_wp2_with fail
      refine (seqOf_calls a1 j d1 W10).mono ?_
      rintro e W11 ⟨rfl, hW11⟩
      have E11 : Hid (Enc W11 W9.heap.size W9.heap.size []) := by rw [hW11]; exact E10.out.alloc _
      have X11 : Hid (Boxed W11 W10.heap.size 31 (.slice a1 j d1)) := by rw [hW11]; exact Boxed.new _ _ _
      have B11 : Hid (Below W9.heap.size W9 W11) := by rw [hW11]; exact B10.out.alloc B10.out.size _
      have N11 : Hid (W10.heap.size ≠ W9.heap.size) := by have := E10.out.lt; show W10.heap.size ≠ W9.heap.size; omega
      clear hW11 E10 B10 hsl1
      go_wp2_with fail
      refine (stringSeq_calls W9.heap.size W9.heap.size W10.heap.size j j (w32_small _ (by omega) (by omega)) (by omega) _ (zs.take j) (by rw [List.length_take]; omega) [] W11 E11.out (Nat.le_refl _) (by simp) X11.out (HS1.out.below B11.out) N11.out).mono ?_
      rintro e W12 ⟨rfl, e12, b12⟩
      have B12 : Hid (Below W9.heap.size W9 W12) := B11.out.trans b12
      rw [List.nil_append] at e12
      obtain ⟨v12, hc12, r12⟩ := e12.cut
      obtain ⟨g12, n12, c12, rfl, H12, G12, hh12, P12, a12, d12, ht12, Q12⟩ := r12.cut rfl
      have HH12 := Lib.hid hh12
      have HT12 := Lib.hid ht12
      have HP12 := Lib.hid P12
      have HQ12 := Lib.hid Q12
      have C12 := Lib.hid (C9.out.below B12.out)
      have R12 := Lib.hid (R9.out.below B12.out)
      have U12 := Lib.hid (U9.out.below B12.out)
      have T12 := Lib.hid (T9.out.below B12.out)
      have D12 : Hid (Below w.heap.size w W12) := D9.out.trans (B12.out.mono D9.out.size)
      clear E11 X11 B11 N11 e12 b12 B12 r12 hh12 ht12 P12 Q12 C9 R9 U9 T9 D9 HS1
      -- p1 := wire.ZZEncoderBytes(e1)
      go_wp2_with fail
      refine (encBytes_calls _ (some ⟨g12, 0, none⟩) n12 c12 W12 hc12).mono ?_
      rintro e w' ⟨rfl, rfl⟩
      clear hc12
      -- e2 := wire.ZZNewEncoder(nil)
      go_wp2_with fail
      refine (newEnc_calls none 0 0 W12).mono ?_
      rintro e W13 ⟨rfl, hW13⟩
      have E13 : Hid (Enc W13 W12.heap.size W12.heap.size []) := by rw [hW13]; exact Enc.new (Row.nil _ _)
      have B13 : Hid (Below W12.heap.size W12 W13) := by rw [hW13]; exact (Below.refl _ _).alloc (Nat.le_refl _) _
      clear hW13
      -- e2.StringSeq(len(ss)-k, wire.ZZSeqOf(ss[k:]))
      obtain ⟨a2, d2, hsl2, S2⟩ := C12.out.back j hjz
      have HS2 := Lib.hid S2
      clear S2
      go_wp2_with fail
      refine (seqOf_calls a2 (zs.length - j) d2 W13).mono ?_
      rintro e W14 ⟨rfl, hW14⟩
      have E14 : Hid (Enc W14 W12.heap.size W12.heap.size []) := by rw [hW14]; exact E13.out.alloc _
      have X14 : Hid (Boxed W14 W13.heap.size 31 (.slice a2 (zs.length - j) d2)) := by rw [hW14]; exact Boxed.new _ _ _
      have B14 : Hid (Below W12.heap.size W12 W14) := by rw [hW14]; exact B13.out.alloc B13.out.size _
      have N14 : Hid (W13.heap.size ≠ W12.heap.size) := by have := E13.out.lt; show W13.heap.size ≠ W12.heap.size; omega
      clear hW14 E13 B13 hsl2
      go_wp2_with fail
      refine (stringSeq_calls W12.heap.size W12.heap.size W13.heap.size (zs.length - j) _ (by rw [w32_small _ (by omega) (by omega)]; omega) (by omega) _ (zs.drop j) (by rw [List.length_drop]; omega) [] W14 E14.out (Nat.le_refl _) (by simp) X14.out (HS2.out.below B14.out) N14.out).mono ?_
      rintro e W15 ⟨rfl, e15, b15⟩
      have B15 : Hid (Below W12.heap.size W12 W15) := B14.out.trans b15
      rw [List.nil_append] at e15
      obtain ⟨v15, hc15, r15⟩ := e15.cut
      obtain ⟨g15, n15, c15, rfl, H15, G15, hh15, P15, a15, d15, ht15, Q15⟩ := r15.cut rfl
      have HH15 := Lib.hid hh15
      have HT15 := Lib.hid ht15
      have HP15 := Lib.hid P15
      have HQ15 := Lib.hid Q15
      have HP12' := Lib.hid (HP12.out.below B15.out)
      have HQ12' := Lib.hid (HQ12.out.below B15.out)
      have R15 := Lib.hid (R12.out.below B15.out)
      have U15 := Lib.hid (U12.out.below B15.out)
      have T15 := Lib.hid (T12.out.below B15.out)
      have D15 : Hid (Below w.heap.size w W15) := D12.out.trans (B15.out.mono D12.out.size)
      clear E14 X14 B14 N14 e15 b15 B15 r15 hh15 ht15 P15 Q15 C12 R12 U12 T12 D12 HS2 HP12 HQ12 G12 G15
      -- p2 := wire.ZZEncoderBytes(e2)
      go_wp2_with fail
      refine (encBytes_calls _ (some ⟨g15, 0, none⟩) n15 c15 W15 hc15).mono ?_
      rintro e w' ⟨rfl, rfl⟩
      clear hc15
      have h412 : 4 ≤ n12 := by have := H12.out; omega
      have h415 : 4 ≤ n15 := by have := H15.out; omega
      -- joined := zzCloneBytes(b)
      go_wp2_with fail
      refine (clone_calls _ lb W15 R15.out (by have := HL.out; omega)).mono ?_
      rintro e W16 ⟨v16, rfl, r16, b16⟩
      have R16 := Lib.hid r16
      have B16 := Lib.hid b16
      clear r16 b16
      -- joined = zzBE32(joined, int32(n))
      go_wp2_with fail
      refine (be32_calls W15.heap.size u (wrap32 n) HU.out.2 HU.out.1 v16 lb W16 R16.out B16.out.size (by have := HL.out; omega)).mono ?_
      rintro e W17 ⟨v17, rfl, r17, g17⟩
      have B17 : Hid (Below W15.heap.size W15 W17) := B16.out.trans (R16.out.belowG B16.out.size g17)
      have R17 := Lib.hid r17
      clear r17 g17 R16 B16
      -- joined = append(joined, p1[4:]...)
      have HLX : Hid (lb ++ be4 u ++ flat (zs.take j) ++ flat (zs.drop j) = lb ++ be4 u ++ flat zs) := by
        show _ = _
        rw [List.append_assoc, ← flat_append, List.take_append_drop]
      have HBX : Hid ((lb ++ be4 u ++ flat zs).length ≤ 137438953472) := by
        have := len_bound (zs := zs) u zs.length HL.out HZ.out
        rw [List.take_length] at this
        exact this
      generalize lb ++ be4 u ++ flat zs = LX at *
      generalize flat (zs.take j) = LA at *
      generalize flat (zs.drop j) = LB at *
      have HBB := Lib.hid (bound3 HLX.out HBX.out)
      generalize lb ++ be4 u = LU at *
      have X12 := Lib.hid ((HQ12'.out.below B17.out).cells)
      have hnA := HQ12'.out.len
      have hnB := HQ15.out.len
      have ht12 := HT12.out
      have ht15 := HT15.out
      generalize hA : LA.length = nA at ht12 hnA
      generalize hB : LB.length = nB at ht15 hnB
      have HnA := Lib.hid hA
      have HnB := Lib.hid hB
      clear hA hB hnA hnB HT12 HT15 HQ12' H12 H15
      go_wp2_with (at_builtin; first
        | (refine wpList_append_own _ rfl _ _ 22 rfl W15.heap.size 5 i0 (.int .u8 0) 1 1 Try.underlying22 hi5 hz0 hz1 hz2 rfl (by decide) _ _ _ rfl R17.out.own a12 nA d12 (Lib.byteCells LA) rfl (by rw [Lib.byteCells_length, HnA.out, Nat.mul_one]) X12.out (Lib.byteCells_one _) (by have := HnA.out; have := HBB.out; unfold maxLen; omega) (by have := HnA.out; have := HBB.out; omega) B17.out.size ?_; intro v18 W18 hown hgrow hiff; clear hiff; have R18 : Hid (Row W18 W15.heap.size v18 (LU ++ LA)) := row_app HnA.out hown; have B18 : Hid (Below W15.heap.size W15 W18) := B17.out.trans (R17.out.belowG B17.out.size hgrow); have HL18 : Hid ((LU ++ LA).length + LB.length ≤ 137438953472) := (by have := HBB.out; rw [List.length_append]; exact this); clear hown hgrow; generalize LU ++ LA = LV at *)
        | (refine wpList_append_own _ rfl _ _ 22 rfl W15.heap.size 5 i0 (.int .u8 0) 1 1 Try.underlying22 hi5 hz0 hz1 hz2 rfl (by decide) _ _ _ rfl R18.out.own a15 nB d15 (Lib.byteCells LB) rfl (by rw [Lib.byteCells_length, HnB.out, Nat.mul_one]) ((HQ15.out.below B18.out).cells) (Lib.byteCells_one _) (by have := HnB.out; have := HL18.out; unfold maxLen; omega) (by have := HnB.out; have := HL18.out; omega) B18.out.size ?_; intro v19 W19 hown hgrow hiff; clear hiff; have R19 : Hid (Row W19 W15.heap.size v19 LX) := (by show Row _ _ _ _; rw [← HLX.out]; exact row_app HnB.out hown); have B19 : Hid (Below W15.heap.size W15 W19) := B18.out.trans (R18.out.belowG B18.out.size hgrow); clear hown hgrow))
      obtain ⟨ao19, n19, c19, rfl, hn19⟩ := R19.out.shape
      have T19 := Lib.hid (T15.out.below B19.out)
      have U19 := Lib.hid (U15.out.below B19.out)
      have P19 := Lib.hid (HP12'.out.below B19.out)
      have Q19 := Lib.hid (HP15.out.below B19.out)
      have J19 := Lib.hid R19.out.reads
      have D19 : Hid (Below w.heap.size w W19) := D15.out.trans (B19.out.mono D15.out.size)
      have B20 : Hid (Below W19.heap.size W19 W19.drew) := (Below.refl _ _).drew
      have hh12 := HH12.out
      have hh15 := HH15.out
      clear ht12 ht15 T15 U15 HP12' HP15 R19 R18 R17 B17 B18 B19 D15 HQ15 X12 hn19 HL18 HLX HBB HH12 HH15 HnA HnB R15
      -- the last statement: its operations, in the one order that the calls leave
      refine wp_region_any (by kernel_rfl) ?_
      change wpAny _ _ _ _ _ _ _ (World.drew _)
      refine wpAny_take (i := 0) (v := ?_) rfl (by kernel_rfl) (by kernel_rfl) (by kernel_rfl) (fun _ _ _ h => h) (Or.inl ⟨by kernel_rfl, ?_⟩) ?_
      case refine_2 => (intro w; go_simp <;> with_reducible rfl)
      refine wpAny_take (i := 1) (v := ?_) rfl (by kernel_rfl) (by kernel_rfl) (by kernel_rfl) (fun _ _ _ h => h) (Or.inl ⟨by kernel_rfl, ?_⟩) ?_
      case refine_2 => (intro w; go_simp <;> with_reducible rfl)
      refine wpAny_ready (rs := [2]) (by kernel_rfl) (by simp) ?_
      refine AllReady.cons rfl (fun K hK => ?_) AllReady.nil
      go_simp
      go_wp2_with (go_at_call_of 13 u9; refine (same_in W19 _ _ LX (by have := HBX.out; omega) _ B20.out (T19.out.below B20.out) (U19.out.below B20.out)).mono ?_; rintro e W21 ⟨rfl, b21⟩; have B21 := Lib.hid b21; clear b21)
      refine wpAny_take (i := 3) (v := ?_) rfl (by kernel_rfl) (by kernel_rfl) (by kernel_rfl) (fun _ _ _ h => h) (Or.inl ⟨by kernel_rfl, ?_⟩) ?_
      case refine_2 => (intro w; go_simp <;> with_reducible rfl)
      refine wpAny_take (i := 4) (v := ?_) rfl (by kernel_rfl) (by kernel_rfl) (by kernel_rfl) (fun _ _ _ h => h) (Or.inl ⟨by kernel_rfl, ?_⟩) ?_
      case refine_2 => (intro w; go_simp <;> with_reducible rfl)
      refine wpAny_take (i := 5) (v := ?_) rfl (by kernel_rfl) (by kernel_rfl) (by kernel_rfl) (fun _ _ _ h => h) (Or.inl ⟨by kernel_rfl, ?_⟩) ?_
      case refine_2 => (intro w; go_simp <;> with_reducible rfl)
      refine wpAny_ready (rs := [6]) (by kernel_rfl) (by simp) ?_
      refine AllReady.cons rfl (fun K hK => ?_) AllReady.nil
      go_simp
      go_wp2_with (go_at_call_of 13 (Value.slice ao19 n19 c19); refine (same_in W19 _ _ LX (by have := HBX.out; omega) _ B21.out (T19.out.below B21.out) (J19.out.below B21.out)).mono ?_; rintro e W22 ⟨rfl, b22⟩; have B22 := Lib.hid b22; clear b22)
      refine wpAny_take (i := 7) (v := ?_) rfl (by kernel_rfl) (by kernel_rfl) (by kernel_rfl) (fun _ _ _ h => h) (Or.inl ⟨by kernel_rfl, ?_⟩) ?_
      case refine_2 => (intro w; go_simp <;> with_reducible rfl)
      refine wpAny_take (i := 8) (v := ?_) rfl (by kernel_rfl) (by kernel_rfl) (by kernel_rfl) (fun _ _ _ h => h) (Or.inl ⟨by kernel_rfl, ?_⟩) ?_
      case refine_2 => (intro w; go_simp <;> with_reducible rfl)
      refine wpAny_take (i := 9) (v := ?_) rfl (by kernel_rfl) (by kernel_rfl) (by kernel_rfl) (fun _ _ _ h => h) (Or.inl ⟨by kernel_rfl, ?_⟩) ?_
      case refine_2 => (intro w; go_simp <;> with_reducible rfl)
      refine wpAny_take (i := 10) (v := ?_) rfl (by kernel_rfl) (by kernel_rfl) (by kernel_rfl) (fun _ _ _ h => h) (Or.inl ⟨by kernel_rfl, ?_⟩) ?_
      case refine_2 => (intro w; go_simp <;> with_reducible rfl)
      refine wpAny_take (i := 11) (v := ?_) rfl (by kernel_rfl) (by kernel_rfl) (by kernel_rfl) (fun _ _ _ h => h) (Or.inl ⟨by kernel_rfl, ?_⟩) ?_
      case refine_2 => (intro w; go_simp <;> with_reducible rfl)
      refine wpAny_take (i := 12) (v := ?_) rfl (by kernel_rfl) (by kernel_rfl) (by kernel_rfl) (fun _ _ _ h => h) (Or.inl ⟨by kernel_rfl, ?_⟩) ?_
      case refine_2 => (intro w; go_simp <;> with_reducible rfl)
      refine wpAny_ready (rs := [13]) (by kernel_rfl) (by simp) ?_
      refine AllReady.cons rfl (fun K hK => ?_) AllReady.nil
      go_simp
      go_wp2_with (go_at_call 8; refine (be32_nil W19 j (IntKind.i32.wrap (j : Int)) (i32_small _ (by omega) (by omega)) (by omega) _ B22.out).mono ?_; rintro e W23 ⟨ao23, n23, c23, rfl, r23, b23⟩; have B23 := Lib.hid b23; have R23 := Lib.hid r23; clear b23 r23)
      refine wpAny_ready (rs := [14]) (by kernel_rfl) (by simp) ?_
      refine AllReady.cons rfl (fun K hK => ?_) AllReady.nil
      go_simp
      go_wp2_with (go_at_call_of 13 (Value.slice ao23 n23 c23); refine (same_in W19 _ _ (be4 j) (be4_short j) _ B23.out (P19.out.below B23.out) R23.out).mono ?_; rintro e W24 ⟨rfl, b24⟩; have B24 := Lib.hid b24; clear b24)
      refine wpAny_take (i := 15) (v := ?_) rfl (by kernel_rfl) (by kernel_rfl) (by kernel_rfl) (fun _ _ _ h => h) (Or.inl ⟨by kernel_rfl, ?_⟩) ?_
      case refine_2 => (intro w; go_simp <;> with_reducible rfl)
      refine wpAny_take (i := 16) (v := ?_) rfl (by kernel_rfl) (by kernel_rfl) (by kernel_rfl) (fun _ _ _ h => h) (Or.inl ⟨by kernel_rfl, ?_⟩) ?_
      case refine_2 => (intro w; go_simp <;> with_reducible rfl)
      refine wpAny_take (i := 17) (v := ?_) rfl (by kernel_rfl) (by kernel_rfl) (by kernel_rfl) (fun _ _ _ h => h) (Or.inl ⟨by kernel_rfl, ?_⟩) ?_
      case refine_2 => (intro w; go_simp <;> with_reducible rfl)
      refine wpAny_take (i := 18) (v := ?_) rfl (by kernel_rfl) (by kernel_rfl) (by kernel_rfl) (fun _ _ _ h => h) (Or.inl ⟨by kernel_rfl, ?_⟩) ?_
      case refine_2 => (intro w; go_simp <;> with_reducible rfl)
      refine wpAny_take (i := 19) (v := ?_) rfl (by kernel_rfl) (by kernel_rfl) (by kernel_rfl) (fun _ _ _ h => h) (Or.inl ⟨by kernel_rfl, ?_⟩) ?_
      case refine_2 => (intro w; go_simp <;> with_reducible rfl)
      refine wpAny_take (i := 20) (v := ?_) rfl (by kernel_rfl) (by kernel_rfl) (by kernel_rfl) (fun _ _ _ h => h) (Or.inl ⟨by kernel_rfl, ?_⟩) ?_
      case refine_2 => (intro w; go_simp <;> with_reducible rfl)
      refine wpAny_take (i := 21) (v := ?_) rfl (by kernel_rfl) (by kernel_rfl) (by kernel_rfl) (fun _ _ _ h => h) (Or.inl ⟨by kernel_rfl, ?_⟩) ?_
      case refine_2 => (intro w; go_simp <;> with_reducible rfl)
      refine wpAny_take (i := 22) (v := ?_) rfl (by kernel_rfl) (by kernel_rfl) (by kernel_rfl) (fun _ _ _ h => h) (Or.inl ⟨by kernel_rfl, ?_⟩) ?_
      case refine_2 => (intro w; go_simp <;> with_reducible rfl)
      refine wpAny_take (i := 23) (v := ?_) rfl (by kernel_rfl) (by kernel_rfl) (by kernel_rfl) (fun _ _ _ h => h) (Or.inl ⟨by kernel_rfl, ?_⟩) ?_
      case refine_2 => (intro w; go_simp <;> with_reducible rfl)
      refine wpAny_ready (rs := [24]) (by kernel_rfl) (by simp) ?_
      refine AllReady.cons rfl (fun K hK => ?_) AllReady.nil
      go_simp
      go_wp2_with (go_at_call 8; refine (be32_nil W19 (zs.length - j) (IntKind.i32.wrap (IntKind.i64.wrap ((zs.length : Int) - (j : Int)))) (i32_diff _ _ _ (by omega) (by omega) rfl) (by omega) _ B24.out).mono ?_; rintro e W25 ⟨ao25, n25, c25, rfl, r25, b25⟩; have B25 := Lib.hid b25; have R25 := Lib.hid r25; clear b25 r25)
      refine wpAny_ready (rs := [25]) (by kernel_rfl) (by simp) ?_
      refine AllReady.cons rfl (fun K hK => ?_) AllReady.nil
      go_simp
      go_wp2_with (go_at_call_of 13 (Value.slice ao25 n25 c25); refine (same_in W19 _ _ (be4 (zs.length - j)) (be4_short _) _ B25.out (Q19.out.below B25.out) R25.out).mono ?_; rintro e W26 ⟨rfl, b26⟩; have B26 := Lib.hid b26; clear b26)
      refine wpAny_take (i := 26) (v := ?_) rfl (by kernel_rfl) (by kernel_rfl) (by kernel_rfl) (fun _ _ _ h => h) (Or.inl ⟨by kernel_rfl, ?_⟩) ?_
      case refine_2 => (intro w; go_simp <;> with_reducible rfl)
      refine wpAny_take (i := 27) (v := ?_) rfl (by kernel_rfl) (by kernel_rfl) (by kernel_rfl) (fun _ _ _ h => h) (Or.inl ⟨by kernel_rfl, ?_⟩) ?_
      case refine_2 => (intro w; go_simp <;> with_reducible rfl)
      refine wpAny_done (by kernel_rfl) ?_ _
      go_wp2
      go_ret
      exact ⟨rfl, D19.out.trans (B26.out.mono D19.out.size)⟩
end Go.Proofs.Qxb6618946a
