import Derived.Test.Qxb6618946aRow
import Derived.Laws.CopyOwn
import Derived.Deep.QuietTactic
import Derived.BigQuiet
namespace Go.Proofs.Qxb6618946a
open Go.ChangeShapes Go.WideShapes Go.ChangeAt Go.RowKit
set_option linter.unusedVariables false

/-! ### Slices that are read -/
/-- The slice value v reads as the bytes l. -/
def Reads (w : World) (v : Value) (l : List UInt8) : Prop :=
  (v = .slice none 0 0 ∧ l = []) ∨ ∃ ad cap, v = .slice (some ad) l.length cap ∧ ∀ j u, (Lib.byteCells l)[j]? = some u → w.cell? (ad.add j) = some u
theorem Row.reads {w : World} {B : Nat} {v : Value} {l : List UInt8} (h : Row w B v l) : Reads w v l := by
  rcases h.own.2 with ⟨rfl, h0⟩ | ⟨g, cap, cur, rfl, _, hg, _, _, hcs, htk⟩
  · exact .inl ⟨rfl, List.eq_nil_of_length_eq_zero h0⟩
  · refine .inr ⟨_, cap, rfl, fun j u hj => ?_⟩
    rw [Addr.add_lit, Nat.zero_add]
    have hjl := (List.getElem?_eq_some_iff.1 hj).1
    rw [Lib.byteCells_length] at hjl
    rw [← htk, List.getElem?_take, if_pos (by omega)] at hj
    simp [World.cell?, hg]
    simpa using hj

set_option maxHeartbeats 800000 in
theorem clone_nil (w : World) : Calls Try.prog 7 #[.slice none 0 0] w fun e w' => e = .returned (.slice none 0 0) ∧ w = w' := by
  have he := fun W => Lib.run_eql_slice_nil (P := Try.prog) W 22 5 none 0 0 0 0 Try.underlying22
  go_enter Try.func7, Try.ntmps7
  go_wp2
  go_ret
  exact ⟨rfl, rfl⟩

theorem Try.info9 : (Try.prog.info? 9).map (fun i => (i.zero, i.size, i.bytes)) = some (some (.string ⟨#[]⟩), 1, 16) := by kernel_rfl
/-- The block behind a make. -/
theorem made_block {w1 : World} {g n e : Nat} {z : Value} {xs : List Value} (h : w1.ownsRow g e 1 (.slice (some ⟨g, 0, none⟩) n n) n xs) : ∃ cur : List Value, w1.heap[g]? = some (.cells cur.toArray e (0, 0)) ∧ Hid (cur.length = n) := by
  rcases h.2 with ⟨h0, _⟩ | ⟨g', cap, cur, hv, _, hg, _, _, hcs, _⟩
  · cases h0
  · obtain ⟨rfl, rfl⟩ : g = g' ∧ n = cap := by
      simp at hv
      exact ⟨hv.1, hv.2⟩
    refine ⟨cur.toList, by simpa using hg, ?_⟩
    show cur.toList.length = n
    simp [hcs]
theorem splice_whole {cur cs : List Value} (h : cur.length = cs.length) : splice cur 0 cs = cs := by
  unfold splice
  rw [List.take_zero, List.nil_append, Nat.zero_add, List.drop_of_length_le (by omega), List.append_nil]

set_option maxHeartbeats 800000 in
theorem clone_some (ad : Addr) (cs : List Value) (n cap : Nat) (hn : cs.length = n) (h1 : ∀ v ∈ cs, v.oneCell' = true) (w : World) (hsrc : ∀ j u, cs[j]? = some u → w.cell? (ad.add j) = some u) (hl : n ≤ 1073741824) :
    Calls Try.prog 7 #[.slice (some ad) n cap] w fun e w' => e = .returned (.slice (some ⟨w.heap.size, 0, none⟩) n n) ∧ w'.heap[w.heap.size]? = some (.cells cs.toArray 5 (0, 0)) ∧ Below w.heap.size w w' := by
  obtain ⟨i0, hi, hz0, hz1, hz2⟩ := info_parts Try.info5
  have he := fun W => Lib.run_eql_slice_nil (P := Try.prog) W 22 5 (some ad) n cap 0 0 Try.underlying22
  have hsz1 : (Try.prog.info? 5).map (·.size) = some 1 := by kernel_rfl
  have HS := Lib.hid hsrc
  have HN := Lib.hid hn
  have H1 := Lib.hid h1
  clear hsrc hn h1
  go_enter Try.func7, Try.ntmps7
  go_wp2_with (first
    | (at_make; refine wpList_make_full _ rfl _ _ 22 rfl w.heap.size 5 i0 (.int .u8 0) 1 Try.underlying22 hi hz0 hz1 .i64 .i64 n n n rfl rfl rfl rfl (by rw [hz2]; omega) (by unfold maxLen; omega) (Nat.le_refl _) ?_; intro w1 hown hgrow; obtain ⟨cur, hg, Hcl⟩ := made_block (z := .nilIface) hown; have hb := (Below.refl w.heap.size w).grown hgrow (Nat.le_refl _) (fun k hk => by cases hk); have HG := Lib.hid hg; clear hown hgrow hg)
    | (refine wpList_copy_splice rfl _ _ 22 22 rfl 5 Try.underlying22 hsz1 _ _ _ _ _ _ rfl rfl w.heap.size 0 cur 5 HG.out cs (by rw [HN.out]; simp) (fun hp => ⟨rfl, ad, rfl, fun j v hj => (cell_later hb (HS.out j v hj))⟩) (by rw [HN.out, Hcl.out]; omega) H1.out w.heap.size w hb (Nat.le_refl _) ?_; intro w2 HG2 hb2))
  go_wp2
  go_ret
  refine ⟨rfl, ?_, hb2⟩
  rw [HG2.out, splice_whole (by rw [HN.out, Hcl.out])]

set_option maxHeartbeats 800000 in
theorem cloneS_some (ad : Addr) (cs : List Value) (n cap : Nat) (hn : cs.length = n) (h1 : ∀ v ∈ cs, v.oneCell' = true) (w : World) (hsrc : ∀ j u, cs[j]? = some u → w.cell? (ad.add j) = some u) (hl : n ≤ 1073741824) :
    Calls Try.prog 17 #[.slice (some ad) n cap] w fun e w' => e = .returned (.slice (some ⟨w.heap.size, 0, none⟩) n n) ∧ w'.heap[w.heap.size]? = some (.cells cs.toArray 9 (0, 0)) ∧ Below w.heap.size w w' := by
  obtain ⟨i0, hi, hz0, hz1, hz2⟩ := info_parts Try.info9
  have he := fun W => Lib.run_eql_slice_nil (P := Try.prog) W 31 9 (some ad) n cap 0 0 Try.underlying31
  have hsz1 : (Try.prog.info? 9).map (·.size) = some 1 := by kernel_rfl
  have HS := Lib.hid hsrc
  have HN := Lib.hid hn
  have H1 := Lib.hid h1
  clear hsrc hn h1
  go_enter Try.func17, Try.ntmps17
  go_wp2_with (first
    | (at_make; refine wpList_make_full _ rfl _ _ 31 rfl w.heap.size 9 i0 (.string ⟨#[]⟩) 1 Try.underlying31 hi hz0 hz1 .i64 .i64 n n n rfl rfl rfl rfl (by rw [hz2]; omega) (by unfold maxLen; omega) (Nat.le_refl _) ?_; intro w1 hown hgrow; obtain ⟨cur, hg, Hcl⟩ := made_block (z := .nilIface) hown; have hb := (Below.refl w.heap.size w).grown hgrow (Nat.le_refl _) (fun k hk => by cases hk); have HG := Lib.hid hg; clear hown hgrow hg)
    | (refine wpList_copy_splice rfl _ _ 31 31 rfl 9 Try.underlying31 hsz1 _ _ _ _ _ _ rfl rfl w.heap.size 0 cur 9 HG.out cs (by rw [HN.out]; simp) (fun hp => ⟨rfl, ad, rfl, fun j v hj => (cell_later hb (HS.out j v hj))⟩) (by rw [HN.out, Hcl.out]; omega) H1.out w.heap.size w hb (Nat.le_refl _) ?_; intro w2 HG2 hb2))
  go_wp2
  go_ret
  refine ⟨rfl, ?_, hb2⟩
  rw [HG2.out, splice_whole (by rw [HN.out, Hcl.out])]

set_option maxHeartbeats 800000 in
theorem cloneS_nil (w : World) : Calls Try.prog 17 #[.slice none 0 0] w fun e w' => e = .returned (.slice none 0 0) ∧ w = w' := by
  have he := fun W => Lib.run_eql_slice_nil (P := Try.prog) W 31 9 none 0 0 0 0 Try.underlying31
  go_enter Try.func17, Try.ntmps17
  go_wp2
  go_ret
  exact ⟨rfl, rfl⟩

theorem row_of_block {w : World} {g B : Nat} {l : List UInt8} (hB : B ≤ g) (hl : l.length ≤ 1073741824) (h : w.heap[g]? = some (.cells (Lib.byteCells l).toArray 5 (0, 0))) : Row w B (.slice (some ⟨g, 0, none⟩) l.length l.length) l := by
  refine ⟨by rw [Lib.byteCells_length, Nat.mul_one], .inr ⟨g, l.length, (Lib.byteCells l).toArray, rfl, hB, h, Nat.le_refl _, by unfold maxLen; omega, by simp [Lib.byteCells_length], ?_⟩⟩
  rw [Nat.mul_one, ← Lib.byteCells_length l]
  simp
theorem clone_calls (v : Value) (l : List UInt8) (w : World) (hr : Reads w v l) (hl : l.length ≤ 1073741824) :
    Calls Try.prog 7 #[v] w fun e w' => ∃ v', e = .returned v' ∧ Row w' w.heap.size v' l ∧ Below w.heap.size w w' := by
  rcases hr with ⟨rfl, rfl⟩ | ⟨ad, cap, rfl, hc⟩
  · refine (clone_nil w).mono ?_
    rintro e w' ⟨rfl, rfl⟩
    exact ⟨_, rfl, Row.nil _ _, Below.refl _ _⟩
  · refine (clone_some ad (Lib.byteCells l) l.length cap (Lib.byteCells_length _) (Lib.byteCells_one _) w hc hl).mono ?_
    rintro e w' ⟨rfl, hg, hb⟩
    exact ⟨_, rfl, row_of_block (Nat.le_refl _) hl hg, hb⟩

/-! ### zzSame -/
theorem Reads.below {w w' : World} {v : Value} {l : List UInt8} (hb : Below w.heap.size w w') : Reads w v l → Reads w' v l
  | .inl h => .inl h
  | .inr ⟨ad, cap, h, hc⟩ => .inr ⟨ad, cap, h, fun j u hj => cell_later hb (hc j u hj)⟩

set_option maxHeartbeats 800000 in
theorem same_none (a b : Option Addr) (c d : Nat) (w : World) : Calls Try.prog 13 #[.slice a 0 c, .slice b 0 d] w fun e w' => e = .returned (.bool true) ∧ ∃ q, w' = w.drewN q := by
  go_enter Try.func13, Try.ntmps13
  go_wp2
  go_loop [5] (fun i => i = .int .i64 0) (fun _ => 0)
  case atStart => rfl
  case round =>
    subst hrel
    go_wp2
    go_ret
    exact ⟨rfl, 0, rfl⟩

set_option maxHeartbeats 800000 in
theorem same_some (a b : Addr) (n c d : Nat) (l : List UInt8) (hn : l.length = n) (hm : n ≤ 1099511627776) (w : World) (ha : ∀ j u, (Lib.byteCells l)[j]? = some u → w.cell? (a.add j) = some u) (hb : ∀ j u, (Lib.byteCells l)[j]? = some u → w.cell? (b.add j) = some u) :
    Calls Try.prog 13 #[.slice (some a) n c, .slice (some b) n d] w fun e w' => e = .returned (.bool true) ∧ ∃ q, w' = w.drewN q := by
  have HA := Lib.hid ha
  have HB := Lib.hid hb
  have HN := Lib.hid hn
  clear ha hb hn
  go_enter Try.func13, Try.ntmps13
  go_wp2
  go_loopw [5] (fun i wr => ∃ k q : Nat, k ≤ n ∧ i = .int .i64 k ∧ wr = w.drewN q) (fun i _ => n - (intOf i).toNat)
  case atStart => exact ⟨0, 0, Nat.zero_le _, rfl, rfl⟩
  case round =>
    obtain ⟨k, q, hk, rfl, rfl⟩ := hrel
    by_cases hlt : k < n
    · have e5 : (Lib.byteCells l)[k]? = some (.int .u8 ((l.getD k 0).toNat : Int)) := by
        have : k < l.length := by rw [HN.out]; exact hlt
        simp [Lib.byteCells, List.getD, this]
      have ca := HA.out k _ e5
      have cb := HB.out k _ e5
      generalize ((l.getD k 0).toNat : Int) = x at *
      clear e5
      have hlt' : (k : Int) < (n : Int) := by omega
      go_wp2
      go_quiet (fail)
      go_wp2
      go_roundw
      case rel => exact ⟨k + 1, _, by omega, by go_num, rfl⟩
      case measure => simp [intOf]; omega
    · go_wp2
      go_ret
      exact ⟨rfl, q, rfl⟩
theorem Reads.shape {w : World} {v : Value} {l : List UInt8} (h : Reads w v l) : ∃ ao cap, v = .slice ao l.length cap := by
  rcases h with ⟨rfl, rfl⟩ | ⟨ad, cap, rfl, _⟩
  · exact ⟨none, 0, rfl⟩
  · exact ⟨_, cap, rfl⟩
theorem same_calls (a b : Value) (l : List UInt8) (hm : l.length ≤ 1099511627776) (w : World) (ha : Reads w a l) (hb : Reads w b l) :
    Calls Try.prog 13 #[a, b] w fun e w' => e = .returned (.bool true) ∧ ∃ q, w' = w.drewN q := by
  by_cases h0 : l = []
  · subst h0
    obtain ⟨a1, c1, rfl⟩ := ha.shape
    obtain ⟨b1, d1, rfl⟩ := hb.shape
    exact same_none a1 b1 c1 d1 w
  · rcases ha with ⟨_, h⟩ | ⟨ad, c, rfl, hca⟩
    · exact absurd h h0
    rcases hb with ⟨_, h⟩ | ⟨bd, d, rfl, hcb⟩
    · exact absurd h h0
    exact same_some ad bd l.length c d l rfl hm w hca hcb
end Go.Proofs.Qxb6618946a
