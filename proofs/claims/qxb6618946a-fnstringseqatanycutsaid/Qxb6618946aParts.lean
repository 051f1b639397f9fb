import Derived.Test.Qxb6618946aSizes
import Derived.Test.Qxb6618946aStrSeq
namespace Go.Proofs.Qxb6618946a
open Go.RowKit
set_option linter.unusedVariables false

/-! ### The two doors of the Encoder -/
set_option maxHeartbeats 400000 in
theorem newEnc_calls (ao : Option Addr) (n c : Nat) (w : World) :
    Calls Try.prog 9 #[.slice ao n c] w fun e w' => e = .returned (.pointer (some ⟨w.heap.size, 0, none⟩)) ∧ w' = w.alloc (.cells #[.slice ao n c] 44) := by
  go_enter Try.func9, Try.ntmps9
  go_wp2
  go_ret
  exact ⟨rfl, rfl⟩
set_option maxHeartbeats 400000 in
theorem encBytes_calls (E : Nat) (ao : Option Addr) (n c : Nat) (w : World) (h : w.cell? ⟨E, 0, none⟩ = some (.slice ao n c)) :
    Calls Try.prog 14 #[.pointer (some ⟨E, 0, none⟩)] w fun e w' => e = .returned (.slice ao n c) ∧ w = w' := by
  go_enter Try.func14, Try.ntmps14
  go_wp2
  go_ret
  exact ⟨rfl, rfl⟩
theorem Enc.new {w : World} {B : Nat} {v : Value} {l : List UInt8} (hr : Row w B v l) : Enc (w.alloc (.cells #[v] 44)) B w.heap.size l :=
  ⟨v, Boxed.new w 44 v, ⟨hr.own.alloc _⟩⟩

/-! ### The strings, cloned -/
theorem ReadsS.below {w w' : World} {v : Value} {ss : List ByteArray} (hb : Below w.heap.size w w') : ReadsS w v ss → ReadsS w' v ss
  | .inl h => .inl h
  | .inr ⟨ad, cap, h, hc⟩ => .inr ⟨ad, cap, h, fun j hj => cell_later hb (hc j hj)⟩
def sv20 (zs : List S20) : List Value := zs.map fun s => .string s.1
/-- The clone lies in block g; or it is nil and there are none. -/
def CS (w : World) (g : Nat) (v : Value) (zs : List S20) : Prop :=
  (v = .slice none 0 0 ∧ zs = []) ∨ (v = .slice (some ⟨g, 0, none⟩) zs.length zs.length ∧ w.heap[g]? = some (.cells (sv20 zs).toArray 9 (0, 0)))
theorem sAt_of (zs : List S20) (j : Nat) (h : j < zs.length) : sAt (zs.map (·.1)) j = (at20 zs j).1 := by
  rw [at20_eq zs j h]
  simp [sAt, List.getD, h]
theorem cloneS_calls (v : Value) (zs : List S20) (w : World) (hr : ReadsS w v (zs.map (·.1))) (hl : zs.length ≤ 65536) :
    Calls Try.prog 17 #[v] w fun e w' => ∃ v', e = .returned v' ∧ CS w' w.heap.size v' zs ∧ Below w.heap.size w w' := by
  rcases hr with ⟨rfl, h0⟩ | ⟨ad, cap, rfl, hc⟩
  · refine (cloneS_nil w).mono ?_
    rintro e w' ⟨rfl, rfl⟩
    exact ⟨_, rfl, .inl ⟨rfl, List.map_eq_nil_iff.1 h0⟩, Below.refl _ _⟩
  · rw [List.length_map] at hc ⊢
    refine (cloneS_some ad (sv20 zs) zs.length cap (by simp [sv20]) (fun v hv => by obtain ⟨x, _, rfl⟩ := List.mem_map.1 hv; rfl) w (fun j u hj => ?_) (by omega)).mono ?_
    · have hjl : j < zs.length := by simpa [sv20] using (List.getElem?_eq_some_iff.1 hj).1
      have e5 : (sv20 zs)[j]? = some (.string (at20 zs j).1) := by rw [at20_eq zs j hjl]; simp [sv20, hjl]
      rw [e5] at hj
      cases hj
      rw [hc j hjl, sAt_of zs j hjl]
    · rintro e w' ⟨rfl, hg, hb⟩
      exact ⟨_, rfl, .inr ⟨rfl, hg⟩, hb⟩
theorem CS.cell {w : World} {g : Nat} {zs : List S20} (hg : w.heap[g]? = some (.cells (sv20 zs).toArray 9 (0, 0))) (j : Nat) (hj : j < zs.length) : w.cell? ⟨g, j, none⟩ = some (.string (at20 zs j).1) := by
  rw [at20_eq zs j hj]
  simp [World.cell?, hg, sv20, hj]
theorem CS.below {w w' : World} {g : Nat} {v : Value} {zs : List S20} (hb : Below w.heap.size w w') : CS w g v zs → CS w' g v zs
  | .inl h => .inl h
  | .inr ⟨h1, h2⟩ => .inr ⟨h1, (hb.block g (Array.getElem?_eq_some_iff.1 h2).1).trans h2⟩
theorem CS.shape {w : World} {g : Nat} {v : Value} {zs : List S20} (h : CS w g v zs) : ∃ ao c, v = .slice ao zs.length c := by
  rcases h with ⟨rfl, rfl⟩ | ⟨rfl, _⟩
  · exact ⟨none, 0, rfl⟩
  · exact ⟨_, _, rfl⟩
theorem CS.strs {w : World} {g : Nat} {v : Value} {zs : List S20} (h : CS w g v zs) : Strs w.heap.size w v zs := by
  rcases h with ⟨rfl, rfl⟩ | ⟨rfl, h2⟩
  · exact .inl ⟨rfl, rfl⟩
  · exact .inr ⟨g, 0, _, rfl, (Array.getElem?_eq_some_iff.1 h2).1, fun j hj => by rw [Nat.zero_add]; exact CS.cell h2 j hj⟩
theorem Try.ht31 : Try.prog.underlying 31 = some (.slice (Try.prog.elem 31)) := by kernel_rfl
theorem Try.sz31 (w : World) : (sizeOf (Try.prog.elem 31)).run Try.prog w = .ok 1 w := by kernel_rfl
/-- 'ss[i]' -/
theorem CS.idx {w : World} {g : Nat} {ao : Option Addr} {c : Nat} {zs : List S20} (h : CS w g (.slice ao zs.length c) zs) (i : Nat) (hi : i < zs.length) :
    ∃ ad, (∀ W, (Instr.indexAt 31 (.slice ao zs.length c) (.int .i64 (i : Int))).run Try.prog W = .ok (.pointer (some ad)) W) ∧ w.cell? ad = some (.string (at20 zs i).1) := by
  rcases h with ⟨h1, rfl⟩ | ⟨h1, h2⟩
  · simp at hi
  · simp at h1
    obtain ⟨rfl, rfl⟩ := h1
    refine ⟨⟨g, i, none⟩, fun W => ?_, CS.cell h2 i hi⟩
    rw [run_indexAt_slice (P := Try.prog) W 31 ⟨g, 0, none⟩ zs.length zs.length .i64 (i : Int) Try.ht31, if_pos (by omega), Try.sz31]
    simp [Result.andThen, Addr.add_lit]
/-- 'ss[:k]' -/
theorem CS.front {w : World} {g : Nat} {v : Value} {zs : List S20} (h : CS w g v zs) (k : Nat) (hk : k ≤ zs.length) :
    ∃ a c, (∀ W, (Instr.slice 31 v none (some (.int .i64 (k : Int))) none).run Try.prog W = .ok (.slice a k c) W) ∧ Strs w.heap.size w (.slice a k c) (zs.take k) := by
  rcases h with ⟨rfl, rfl⟩ | ⟨rfl, h2⟩
  · obtain rfl : k = 0 := by simpa using hk
    exact ⟨none, 0, fun W => by kernel_rfl, .inl ⟨rfl, by simp⟩⟩
  · refine ⟨some ⟨g, 0, none⟩, zs.length, fun W => ?_, .inr ⟨g, 0, zs.length, by rw [List.length_take, Nat.min_eq_left hk], (Array.getElem?_eq_some_iff.1 h2).1, fun j hj => ?_⟩⟩
    · rw [run_slice_h (P := Try.prog) W 31 (some ⟨g, 0, none⟩) zs.length zs.length Try.ht31 .i64 (k : Int) (by omega) (by omega), Try.sz31]
      simp [Result.andThen, sliced, Addr.add_lit]
    · rw [List.length_take] at hj
      rw [Nat.zero_add, CS.cell h2 j (by omega), at20_eq zs j (by omega), at20_eq (zs.take k) j (by rw [List.length_take]; omega)]
      simp
/-- 'ss[k:]' -/
theorem CS.back {w : World} {g : Nat} {v : Value} {zs : List S20} (h : CS w g v zs) (k : Nat) (hk : k ≤ zs.length) :
    ∃ a c, (∀ W, (Instr.slice 31 v (some (.int .i64 (k : Int))) none none).run Try.prog W = .ok (.slice a (zs.length - k) c) W) ∧ Strs w.heap.size w (.slice a (zs.length - k) c) (zs.drop k) := by
  rcases h with ⟨rfl, rfl⟩ | ⟨rfl, h2⟩
  · obtain rfl : k = 0 := by simpa using hk
    exact ⟨none, 0, fun W => by kernel_rfl, .inl ⟨rfl, by simp⟩⟩
  · refine ⟨some ⟨g, if zs.length = k then 0 else k, none⟩, zs.length - k, fun W => ?_, .inr ⟨g, if zs.length = k then 0 else k, zs.length - k, by rw [List.length_drop], (Array.getElem?_eq_some_iff.1 h2).1, fun j hj => ?_⟩⟩
    · rw [run_slice_l (P := Try.prog) W 31 (some ⟨g, 0, none⟩) zs.length zs.length Try.ht31 .i64 (k : Int) (by omega) (by omega), Try.sz31]
      by_cases e : zs.length = k
      · simp [Result.andThen, sliced, e]
      · simp [Result.andThen, sliced, e, Addr.add_lit]
    · rw [List.length_drop] at hj
      rw [if_neg (by omega), CS.cell h2 (k + j) (by omega), at20_eq zs (k + j) (by omega), at20_eq (zs.drop k) j (by rw [List.length_drop]; omega)]
      simp

theorem flat_take (zs : List S20) (i : Nat) (hi : i < zs.length) : flat (zs.take (i + 1)) = flat (zs.take i) ++ encS (at20 zs i).1 := by
  rw [List.take_succ_eq_append_getElem hi, flat_snoc, at20_eq zs i hi]
theorem len_bound {lb : List UInt8} {zs : List S20} (u i : Nat) (hl : lb.length ≤ 1048576) (hz : zs.length ≤ 65536) : (lb ++ be4 u ++ flat (zs.take i)).length ≤ 137438953472 := by
  have h1 := flat_length (zs.take i)
  have h2 : (zs.take i).length ≤ 65536 := by rw [List.length_take]; omega
  have h3 : (be4 u).length = 4 := rfl
  rw [List.length_append, List.length_append, h3]
  omega
theorem u32_nat (x : Int) : ∃ u : Nat, u < 4294967296 ∧ IntKind.u32.wrap x = (u : Int) := by
  refine ⟨(x % 4294967296).toNat, by omega, ?_⟩
  simp [IntKind.wrap, IntKind.bits, IntKind.signed]
  omega

theorem w32_small (x : Int) (h0 : 0 ≤ x) (h1 : x ≤ 65536) : IntKind.u32.wrap (wrap32 x) = x := by
  have e : wrap32 x = x := by unfold wrap32; omega
  rw [e]
  exact IntWalk.u32_in _ (by omega)
theorem Enc.cut {w : World} {B E : Nat} {h t : List UInt8} (he : Enc w B E (h ++ t)) : ∃ v, w.cell? ⟨E, 0, none⟩ = some v ∧ Row w B v (h ++ t) := by
  obtain ⟨v, h1, h2⟩ := he.ex
  exact ⟨v, h1.cell, h2⟩

/-! ### A byte slice, cut behind its fourth byte -/
theorem Try.ht22 : Try.prog.underlying 22 = some (.slice (Try.prog.elem 22)) := by kernel_rfl
theorem Try.sz22 (w : World) : (sizeOf (Try.prog.elem 22)).run Try.prog w = .ok 1 w := by kernel_rfl
theorem Row.cut {w : World} {B : Nat} {v : Value} {h t : List UInt8} (hr : Row w B v (h ++ t)) (h4 : h.length = 4) :
    ∃ g n c, v = .slice (some ⟨g, 0, none⟩) n c ∧ Hid (n = 4 + t.length) ∧ g < w.heap.size ∧
      (∀ W, (Instr.slice 22 (.slice (some ⟨g, 0, none⟩) n c) none (some (.int .i64 4)) none).run Try.prog W = .ok (.slice (some ⟨g, 0, none⟩) 4 c) W) ∧ Reads w (.slice (some ⟨g, 0, none⟩) 4 c) h ∧
      ∃ a d, (∀ W, (Instr.slice 22 (.slice (some ⟨g, 0, none⟩) n c) (some (.int .i64 4)) none none).run Try.prog W = .ok (.slice (some a) t.length d) W) ∧ Reads w (.slice (some a) t.length d) t := by
  have hlen : (h ++ t).length = 4 + t.length := by rw [List.length_append, h4]
  rcases hr.reads with ⟨_, h0⟩ | ⟨ad, cap, rfl, hc⟩
  · rw [h0] at hlen; simp at hlen; omega
  rcases hr.own.2 with ⟨h0, _⟩ | ⟨g, cap', cur, hv, _, hg, hnc, _, _, _⟩
  · cases h0
  simp at hv
  obtain ⟨rfl, rfl⟩ := hv
  have hbc : ∀ j u, (Lib.byteCells h)[j]? = some u → (Lib.byteCells (h ++ t))[j]? = some u := fun j u hj => by
    rw [Lib.byteCells_append, List.getElem?_append_left (List.getElem?_eq_some_iff.1 hj).1]
    exact hj
  have hbt : ∀ j u, (Lib.byteCells t)[j]? = some u → (Lib.byteCells (h ++ t))[4 + j]? = some u := fun j u hj => by
    rw [Lib.byteCells_append, List.getElem?_append_right (by rw [Lib.byteCells_length]; omega), Lib.byteCells_length, h4, Nat.add_sub_cancel_left]
    exact hj
  refine ⟨g, (h ++ t).length, cap, rfl, hlen, (Array.getElem?_eq_some_iff.1 hg).1, fun W => ?_, .inr ⟨_, cap, by rw [h4], fun j u hj => hc j u (hbc j u hj)⟩, ⟨g, if cap = 4 then 0 else 4, none⟩, cap - 4, fun W => ?_, .inr ⟨_, _, rfl, fun j u hj => ?_⟩⟩
  · rw [run_slice_h (P := Try.prog) W 22 (some ⟨g, 0, none⟩) (h ++ t).length cap Try.ht22 .i64 4 (by omega) (by omega), Try.sz22]
    simp [Result.andThen, sliced, Addr.add_lit]
  · rw [run_slice_l (P := Try.prog) W 22 (some ⟨g, 0, none⟩) (h ++ t).length cap Try.ht22 .i64 4 (by omega) (by omega), Try.sz22, hlen]
    by_cases e : cap = 4
    · simp [Result.andThen, sliced, e]
    · simp [Result.andThen, sliced, e, Addr.add_lit]
  · have := hc (4 + j) u (hbt j u hj)
    have hjl := (List.getElem?_eq_some_iff.1 hj).1
    rw [Lib.byteCells_length] at hjl
    rw [if_neg (by omega), Addr.add_lit]
    rw [Addr.add_lit, Nat.zero_add] at this
    exact this
theorem Reads.cells {w : World} {a : Addr} {m c : Nat} {l : List UInt8} (h : Reads w (.slice (some a) m c) l) : ∀ j u, (Lib.byteCells l)[j]? = some u → w.cell? (a.add j) = some u := by
  rcases h with ⟨h0, _⟩ | ⟨ad, cap, hv, hc⟩
  · cases h0
  · simp at hv
    obtain ⟨rfl, _, _⟩ := hv
    exact hc

/-! ### The calls of the last statement, in whatever later world -/
theorem be32_nil (w0 : World) (u : Nat) (x : Int) (hx : IntKind.u32.wrap x = (u : Int)) (hu : u < 4294967296) (w : World) (hw : Below w0.heap.size w0 w) :
    Calls Try.prog 8 #[.slice none 0 0, .int .i32 x] w fun e w' => ∃ ao n c, e = .returned (.slice ao n c) ∧ Reads w' (.slice ao n c) (be4 u) ∧ Below w0.heap.size w0 w' := by
  refine (be32_calls w.heap.size u x hx hu (.slice none 0 0) [] w (Row.nil _ _) (Nat.le_refl _) (by simp)).mono ?_
  rintro e w' ⟨v', rfl, r, g⟩
  obtain ⟨ao, n, c, rfl, _⟩ := r.shape
  exact ⟨ao, n, c, rfl, r.reads, hw.trans (((Row.nil w w.heap.size).belowG (Nat.le_refl _) g).mono hw.size)⟩
theorem same_in (w0 : World) (a b : Value) (l : List UInt8) (hm : l.length ≤ 1099511627776) (w : World) (hw : Below w0.heap.size w0 w) (ha : Reads w a l) (hb : Reads w b l) :
    Calls Try.prog 13 #[a, b] w fun e w' => e = .returned (.bool true) ∧ Below w0.heap.size w0 w' := by
  refine (same_calls a b l hm w ha hb).mono ?_
  rintro e w' ⟨rfl, q, rfl⟩
  exact ⟨rfl, below_drewN hw q⟩
end Go.Proofs.Qxb6618946a
