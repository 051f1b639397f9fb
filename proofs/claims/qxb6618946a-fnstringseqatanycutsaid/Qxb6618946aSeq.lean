import Derived.Test.Qxb6618946aEnc
import Derived.RangeFuncNested
import Derived.RangeFuncBound
import Derived.RangeFuncCalls
import Derived.RangeFuncLeaves
import Derived.Shelf.Abstract
import Derived.Shelf.RegionOpen
import Derived.OwnWalkIn
import Derived.TacticsInMore
import Derived.LoopNIn
import Derived.LoopIn
namespace Go.Proofs.Qxb6618946a
open Go.RowKit Go.Shelf
set_option linter.unusedVariables false
attribute [local go_sem] Oper.semAt_some

/-! ### slices.Values at []string -/
def upto {α : Type} (f : Nat → α) (k : Nat) : List α := (List.range k).map f
theorem upto_succ {α : Type} (f : Nat → α) (k : Nat) : upto f (k + 1) = upto f k ++ [f k] := by simp [upto, List.range_succ]
theorem upto_length {α : Type} (f : Nat → α) (k : Nat) : (upto f k).length = k := by simp [upto]
/-- A string of at most 2^20 bytes. -/
abbrev S20 := { x : ByteArray // x.size ≤ 1048576 }
def at20 (zs : List S20) (j : Nat) : S20 := zs.getD j ⟨ByteArray.empty, by decide⟩
theorem at20_eq (zs : List S20) (j : Nat) (h : j < zs.length) : at20 zs j = zs[j] := by simp [at20, List.getD, h]
theorem upto_take (zs : List S20) {k : Nat} (hk : k ≤ zs.length) : upto (at20 zs) k = zs.take k := by
  apply List.ext_getElem
  · simp [upto, hk]
  · intro i h1 h2
    have : i < zs.length := by simp [upto] at h1; omega
    simp [upto, at20_eq zs i this]
theorem upto_all (zs : List S20) : upto (at20 zs) zs.length = zs := by
  rw [upto_take zs (Nat.le_refl _), List.take_length]
/-- THE SLICE VALUE sv HOLDS THE strings zs, in a block below n0; or it is nil and there are none. -/
def Strs (n0 : Nat) (W : World) (sv : Value) (zs : List S20) : Prop :=
  (sv = .slice none 0 0 ∧ zs = []) ∨ ∃ b off cap, sv = .slice (some ⟨b, off, none⟩) zs.length cap ∧ b < n0 ∧ ∀ j, j < zs.length → W.cell? ⟨b, off + j, none⟩ = some (.string (at20 zs j).1)
theorem Strs.below {n0 : Nat} {A B : World} (h : Below n0 A B) {sv : Value} {zs : List S20} : Strs n0 A sv zs → Strs n0 B sv zs
  | .inl e => .inl e
  | .inr ⟨b, off, cap, e, hb, hc⟩ => .inr ⟨b, off, cap, e, hb, fun j hj => (h.cell (p := ⟨b, off + j, none⟩) hb).trans (hc j hj)⟩

set_option maxRecDepth 100000 in
set_option maxHeartbeats 2000000 in
theorem values1_in (F : Fence) (n : Nat) (h26 : F.fn 26) (hro : F.round = none) (hn : 1 ≤ n) (l Bs n0 b off len cap : Nat) (zs : List S20) (hreach : len ≤ 1048576) (hb : b < n0) (J Jx : List S20 → World → Prop)
    (hY : ∀ pre x W, J pre W → pre.length < len → YieldAt F (n - 1) Try.prog l #[.string x.1] W fun e W' =>
      (e = .returned (.bool true) ∧ J (pre ++ [x]) W' ∧ Below n0 W W') ∨ (e = .returned (.bool false) ∧ Jx (pre ++ [x]) W'))
    (W : World) (hBs : W.cell? ⟨Bs, 0, none⟩ = some (.slice (some ⟨b, off, none⟩) len cap)) (hc : ∀ j, j < len → W.cell? ⟨b, off + j, none⟩ = some (.string (at20 zs j).1)) (h0 : J [] W) :
    CallsIn F n Try.prog 26 #[.func (.yield l) #[] #[], .pointer (some ⟨Bs, 0, none⟩)] W fun e W' => (∃ v, e = .returned v) ∧
      ((∃ ys, ys = upto (at20 zs) len ∧ J ys W') ∨ (∃ pre, (∃ k, k ≤ len ∧ pre = upto (at20 zs) k) ∧ Jx pre W')) := by
  refine callsIn_of_wp Try.func26 rfl h26 ?_ hro
  simp only [Try.ntmps26, List.size_toArray, List.length_cons, List.length_nil, Nat.reduceAdd, Nat.reduceSub, Array.replicate_succ, Array.replicate_zero, List.push_toArray, List.append_toArray, List.nil_append, List.cons_append]
  gi_wp2
  gi_loopw [7] (fun i wr => ∃ k : Nat, k ≤ len ∧ i = .int .i64 k ∧ J (upto (at20 zs) k) wr ∧ Below n0 W wr)
    (fun i _ => len - (intOf i).toNat)
  case atStart => exact ⟨0, Nat.zero_le _, rfl, h0, Below.refl _ _⟩
  case round =>
    obtain ⟨k, hk, rfl, hJs, hnx⟩ := hrel
    have hcx : k < len → wr.cell? ⟨b, off + k, none⟩ = some (.string (at20 zs k).1) := fun h => (hnx.cell (p := ⟨b, off + k, none⟩) hb).trans (hc k h)
    by_cases hlt : k < len
    · obtain ⟨fn, tmps, assign, body, hy, hR⟩ := hY _ (at20 zs k) wr hJs (by rw [upto_length]; exact hlt)
      have hcx' := hcx hlt
      gi_wp2
      refine hR.mono ?_
      rintro e W3 (⟨rfl, hJ3, hk3⟩ | ⟨rfl, hJx3⟩)
      · gi_wp2
        go_roundw
        case rel => exact ⟨k + 1, by omega, by simp, by rw [upto_succ]; exact hJ3, hnx.trans hk3⟩
        case measure => simp [intOf]; omega
      · gi_wp2
        refine bodyPost_ret (results_none rfl _ _ _) rfl ?_
        exact ⟨⟨_, rfl⟩, .inr ⟨_, ⟨k + 1, by omega, (upto_succ _ _).symm⟩, hJx3⟩⟩
    · obtain rfl : k = len := by omega
      gi_wp2
      go_end0
      exact ⟨⟨_, rfl⟩, .inl ⟨_, rfl, hJs⟩⟩

set_option maxRecDepth 100000 in
set_option maxHeartbeats 1000000 in
/-- .. at the nil slice: no round. -/
theorem values1_nil_in (F : Fence) (n : Nat) (h26 : F.fn 26) (hro : F.round = none) (l Bs : Nat) (J : List S20 → World → Prop) (W : World) (hBs : W.cell? ⟨Bs, 0, none⟩ = some (.slice none 0 0)) (h0 : J [] W) :
    CallsIn F n Try.prog 26 #[.func (.yield l) #[] #[], .pointer (some ⟨Bs, 0, none⟩)] W fun e W' => (∃ v, e = .returned v) ∧ J [] W' := by
  refine callsIn_of_wp Try.func26 rfl h26 ?_ hro
  simp only [Try.ntmps26, List.size_toArray, List.length_cons, List.length_nil, Nat.reduceAdd, Nat.reduceSub, Array.replicate_succ, Array.replicate_zero, List.push_toArray, List.append_toArray, List.nil_append, List.cons_append]
  gi_wp2
  gi_loopw [7] (fun i wr => i = .int .i64 0 ∧ J [] wr) (fun _ _ => 0)
  case atStart => exact ⟨rfl, h0⟩
  case round =>
    obtain ⟨rfl, hJs⟩ := hrel
    gi_wp2
    go_end0
    exact ⟨⟨_, rfl⟩, hJs⟩

theorem values_stops (F : Fence) (n : Nat) (h26 : F.fn 26) (hro : F.round = none) (hn : 1 ≤ n) (Bs n0 : Nat) (sv : Value) (zs : List S20) (hreach : zs.length ≤ 1048576) (w : World) (hBs : Bs < w.heap.size) (hn0 : n0 ≤ w.heap.size)
    (hc : w.cell? ⟨Bs, 0, none⟩ = some sv) (hI : Strs n0 w sv zs) :
    SeqStopsK F n Try.prog 26 #[.pointer (some ⟨Bs, 0, none⟩)] (fun x : S20 => #[Value.string x.1]) (Below n0) (fun ys => ys = zs) (fun pre => pre <+: zs) zs.length w := fun l J Jx W hW _ _ hY h0 => by
  have hc' := (hW.cell (p := ⟨Bs, 0, none⟩) hBs).trans hc
  rcases hI.below (hW.mono hn0) with ⟨rfl, rfl⟩ | ⟨b, off, cap, rfl, hb, hcs⟩
  · exact (values1_nil_in F n h26 hro l Bs J W hc' h0).mono fun e W' ⟨he, hj⟩ => ⟨he, .inl ⟨_, rfl, hj⟩⟩
  · refine (values1_in F n h26 hro hn l Bs n0 b off zs.length cap zs hreach hb J Jx hY W hc' hcs h0).mono ?_
    rintro e W' ⟨he, ⟨ys, rfl, hj⟩ | ⟨pre, ⟨k, hk, rfl⟩, hj⟩⟩
    · exact ⟨he, .inl ⟨_, upto_all zs, hj⟩⟩
    · exact ⟨he, .inr ⟨_, by rw [upto_take zs hk]; exact List.take_prefix _ _, hj⟩⟩
end Go.Proofs.Qxb6618946a
