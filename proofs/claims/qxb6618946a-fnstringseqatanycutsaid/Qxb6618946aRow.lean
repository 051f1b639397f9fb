import Derived.Test.Qxb6618946aRows
import Derived.WalkKit
import Derived.WalkSpells
import Derived.WalkLawsBesides
import Derived.ProofKit
import Derived.Lib.Hide
import Derived.Lib.BufferKept
import Derived.Lib.BufferOwn
import Derived.Lib.OthersKept
import Derived.RangeFuncBox
import Derived.RangeFuncCalls
import Derived.Deep.AppendSrc
namespace Go.Proofs.Qxb6618946a
open Go.ChangeShapes Go.WideShapes Go.ChangeAt Go.RowKit
set_option linter.unusedVariables false

/-! ### A byte slice that the call itself made -/
structure Row (W : World) (B : Nat) (v : Value) (l : List UInt8) : Prop where
  own : W.ownsRow B 5 1 v l.length (Lib.byteCells l)
/-- Four bytes, the greatest first. -/
def be4 (u : Nat) : List UInt8 := [UInt8.ofNat (u / 16777216), UInt8.ofNat (u / 65536), UInt8.ofNat (u / 256), UInt8.ofNat u]
theorem Try.info5 : (Try.prog.info? 5).map (fun i => (i.zero, i.size, i.bytes)) = some (some (.int .u8 0), 1, 1) := by kernel_rfl

theorem four_cells (u : Nat) (hu : u < 4294967296) : Lib.byteCells (be4 u) = [.int .u8 ((u : Int) / 16777216), .int .u8 ((u : Int) / 65536 % 256), .int .u8 ((u : Int) / 256 % 256), .int .u8 ((u : Int) % 256)] := by
  simp only [Lib.byteCells, be4, List.map_cons, List.map_nil, UInt8.toNat_ofNat', List.cons.injEq, Value.int.injEq, true_and, and_true]
  refine ⟨?_, ?_, ?_, ?_⟩ <;> omega
theorem four_at (w : World) (a b c d : Value) : ∀ j u', ([a, b, c, d] : List Value)[j]? = some u' → (w.alloc (.cells #[a, b, c, d] 5)).cell? ((⟨w.heap.size, 0, none⟩ : Addr).add j) = some u' := by
  intro j u' hj
  rw [Addr.add_lit, Nat.zero_add, World.cell?_alloc_new]
  simpa using hj
theorem four_at' (w : World) (o : Obj) (a b c d : Value) : ∀ j u', ([a, b, c, d] : List Value)[j]? = some u' → ((w.alloc o).alloc (.cells #[a, b, c, d] 5)).cell? ((⟨w.heap.size + 1, 0, none⟩ : Addr).add j) = some u' := by
  have := four_at (w.alloc o) a b c d
  rw [World.size_alloc] at this
  exact this
theorem Row.keeps {w w' : World} {B : Nat} {sv : Value} {l : List UInt8} (hr : Row w B sv l) (hg : w.grownBy w' sv.ownBlock) : KeepsOthers w w' := by
  refine KeepsOthers.of_grownBy hg (fun j o e ho => ?_)
  rcases hr.own.2 with ⟨rfl, _⟩ | ⟨g, cap, cur, rfl, _, hgb, _⟩
  · simp [Value.ownBlock] at e
  · have e' : g = j := by simpa [Value.ownBlock] using e
    subst e'
    rw [hgb] at ho
    cases ho
    rfl

theorem Row.kind {w : World} {B : Nat} {sv : Value} {l : List UInt8} (hr : Row w B sv l) (g : Nat) (hg : sv.ownBlock = some g) : ∃ c fz, w.heap[g]? = some (.cells c 5 fz) := by
  rcases hr.own.2 with ⟨rfl, _⟩ | ⟨g', cap, cur, rfl, _, hgb, _⟩
  · simp [Value.ownBlock] at hg
  · have e : g' = g := by simpa [Value.ownBlock] using hg
    subst e
    exact ⟨_, _, hgb⟩
theorem Row.belowG {w w' : World} {B : Nat} {sv : Value} {l : List UInt8} (hr : Row w B sv l) (hB : B ≤ w.heap.size) (hg : w.grownBy w' sv.ownBlock) : Below B w w' :=
  (Below.refl B w).grown hg hB (fun k hk => (hr.own.lt k hk).1)
theorem Row.shape {w : World} {B : Nat} {sv : Value} {l : List UInt8} (hr : Row w B sv l) : ∃ ao n cap, sv = .slice ao n cap ∧ Hid (n = l.length) := by
  rcases hr.own.2 with ⟨rfl, h0⟩ | ⟨g, cap, cur, rfl, _⟩
  · exact ⟨none, 0, 0, rfl, h0.symm⟩
  · exact ⟨_, _, cap, rfl, rfl⟩
theorem Row.nil (w : World) (B : Nat) : Row w B (.slice none 0 0) [] := ⟨World.ownsRow_nil _ _ _ _⟩
theorem Row.below {w w' : World} {B C : Nat} {sv : Value} {l : List UInt8} (hr : Row w B sv l) (hb : Below C w w') (hlt : ∀ g, sv.ownBlock = some g → g < C) : Row w' B sv l := by
  refine ⟨hr.own.1, ?_⟩
  rcases hr.own.2 with ⟨rfl, h0⟩ | ⟨g, cap, cur, rfl, h1, h2, h3⟩
  · exact .inl ⟨rfl, h0⟩
  · exact .inr ⟨g, cap, cur, rfl, h1, (hb.block g (hlt g rfl)).trans h2, h3⟩
theorem Row.drew {w : World} {B : Nat} {sv : Value} {l : List UInt8} (hr : Row w B sv l) : Row w.drew B sv l := ⟨hr.own⟩

/-- An Encoder in block E that holds the bytes l. -/
structure Enc (W : World) (B E : Nat) (l : List UInt8) : Prop where
  ex : ∃ v, Boxed W E 44 v ∧ Row W B v l
theorem Enc.drew {w : World} {B E : Nat} {l : List UInt8} (h : Enc w B E l) : Enc w.drew B E l := by
  obtain ⟨v, h1, h2⟩ := h.ex
  exact ⟨v, h1, h2.drew⟩
/-- What a step on the Encoder in block E keeps: whatever is no cells; whatever is neither E nor a row of bytes. -/
structure Fr (E : Nat) (w w' : World) : Prop where
  keeps : KeepsOthers w w'
  others : Lib.OthersKept 5 (some E) w w'
theorem Fr.refl (E : Nat) (w : World) : Fr E w w := ⟨KeepsOthers.refl w, Lib.OthersKept.refl _ _ _⟩
theorem Fr.trans {E : Nat} {a b c : World} (h : Fr E a b) (k : Fr E b c) : Fr E a c := ⟨h.keeps.trans k.keeps, h.others.trans k.others⟩
theorem Fr.drew (E : Nat) (w : World) : Fr E w w.drew := ⟨KeepsOthers.drew w, (Lib.OthersKept.refl _ _ w).drew⟩
theorem Fr.box {E : Nat} {w w' : World} (h : Fr E w w') {k : Nat} {t : TypeId} {v : Value} (hb : Boxed w k t v) (hne : k ≠ E) (ht : t ≠ 5) : Boxed w' k t v :=
  h.others k _ hb (fun e => hne (by cases e; rfl)) (fun c fz e => by cases e; exact ht rfl)
/-- 'e.b = append(e.b, ..)': what the append leaves, and what the store leaves. -/
theorem enc_step {W W1 : World} {B E : Nat} {v v' : Value} {l l' : List UInt8} (hv : Boxed W E 44 v) (hr : Row W B v l) (hB : B ≤ W.heap.size) (hBE : B ≤ E) (hr' : Row W1 B v' l') (hg : W.grownBy W1 v.ownBlock) :
    Boxed W1 E 44 v ∧ Enc (W1.setCell ⟨E, 0, none⟩ v') B E l' ∧ Below B W (W1.setCell ⟨E, 0, none⟩ v') ∧ Fr E W (W1.setCell ⟨E, 0, none⟩ v') := by
  have hv1 : Boxed W1 E 44 v := hv.kept hg (hv.not_row (by decide) hr.own)
  exact ⟨hv1, ⟨v', hv1.set v', ⟨hr'.own.kept (grownBy_setCell' W1 E v') (.inr (hv1.not_row (by decide) hr'.own).symm)⟩⟩, (hr.belowG hB hg).setCell (p := ⟨E, 0, none⟩) hBE v', ⟨(hr.keeps hg).trans (KeepsOthers.setCell _ _ _), ((Lib.OthersKept.refl 5 (some E) W).grown hg (fun g hg' => hr.kind g hg')).setCell ⟨E, 0, none⟩ rfl v'⟩⟩

set_option maxHeartbeats 800000 in
theorem be32_calls (B u : Nat) (x : Int) (hx : IntKind.u32.wrap x = (u : Int)) (hu : u < 4294967296) (sv : Value) (l : List UInt8) (w : World) (hr : Row w B sv l) (hB : B ≤ w.heap.size) (hlim : l.length ≤ 1099511627776) :
    Calls Try.prog 8 #[sv, .int .i32 x] w fun e w' => ∃ v', e = .returned v' ∧ Row w' B v' (l ++ be4 u) ∧ w.grownBy w' sv.ownBlock := by
  obtain ⟨i0, hi, hz0, hz1, hz2⟩ := info_parts Try.info5
  have HR := Lib.hid hr
  have HF := Lib.hid (four_cells u hu)
  clear hr
  go_enter Try.func8, Try.ntmps8
  go_wp2_with (at_builtin; refine wpList_append_own _ rfl _ _ 22 rfl B 5 i0 (.int .u8 0) 1 1 Try.underlying22 hi hz0 hz1 hz2 rfl (by decide) _ _ _ rfl (HR.out.own.alloc _) ⟨w.heap.size, 0, none⟩ 4 4 [.int .u8 ((u : Int) / 16777216), .int .u8 ((u : Int) / 65536 % 256), .int .u8 ((u : Int) / 256 % 256), .int .u8 ((u : Int) % 256)] rfl rfl (four_at w _ _ _ _) (by simp [Value.oneCell']) (by unfold maxLen; omega) (by omega) (by simp; omega) ?_)
  intro v' w1 hown hgrow _
  have hR1 : Row (w.alloc (.cells #[.int .u8 ((u : Int) / 16777216), .int .u8 ((u : Int) / 65536 % 256), .int .u8 ((u : Int) / 256 % 256), .int .u8 ((u : Int) % 256)] 5)) B sv l := ⟨HR.out.own.alloc _⟩
  have hg := Lib.grownBy_trans (World.grownBy_alloc w _ sv.ownBlock) hgrow
  have hrow : Row w1 B v' (l ++ be4 u) := ⟨by rw [List.length_append, Lib.byteCells_append, HF.out]; exact hown⟩
  clear hown hgrow hR1
  go_wp2
  go_ret
  exact ⟨v', rfl, hrow, hg⟩

set_option maxHeartbeats 800000 in
theorem append32_calls (B u : Nat) (hu : u < 4294967296) (sv : Value) (l : List UInt8) (w : World) (hr : Row w B sv l) (hB : B ≤ w.heap.size) (hlim : l.length ≤ 1099511627776) :
    Calls Try.prog 22 #[.agg #[], sv, .int .u32 u] w fun e w' => ∃ v', e = .returned v' ∧ Row w' B v' (l ++ be4 u) ∧ w.grownBy w' sv.ownBlock := by
  obtain ⟨i0, hi, hz0, hz1, hz2⟩ := info_parts Try.info5
  have HR := Lib.hid hr
  have HF := Lib.hid (four_cells u hu)
  clear hr
  go_enter Try.func22, Try.ntmps22
  go_wp2_with (at_builtin; refine wpList_append_own _ rfl _ _ 22 rfl B 5 i0 (.int .u8 0) 1 1 Try.underlying22 hi hz0 hz1 hz2 rfl (by decide) _ _ _ rfl ((HR.out.own.alloc _).alloc _) ⟨w.heap.size + 1, 0, none⟩ 4 4 [.int .u8 ((u : Int) / 16777216), .int .u8 ((u : Int) / 65536 % 256), .int .u8 ((u : Int) / 256 % 256), .int .u8 ((u : Int) % 256)] rfl rfl (four_at' w _ _ _ _ _) (by simp [Value.oneCell']) (by unfold maxLen; omega) (by omega) (by simp; omega) ?_)
  intro v' w1 hown hgrow _
  have hR1 : Row ((w.alloc (.cells #[] 46)).alloc (.cells #[.int .u8 ((u : Int) / 16777216), .int .u8 ((u : Int) / 65536 % 256), .int .u8 ((u : Int) / 256 % 256), .int .u8 ((u : Int) % 256)] 5)) B sv l := ⟨(HR.out.own.alloc _).alloc _⟩
  have hg := Lib.grownBy_trans (Lib.grownBy_trans (World.grownBy_alloc w _ sv.ownBlock) (World.grownBy_alloc _ _ sv.ownBlock)) hgrow
  have hrow : Row w1 B v' (l ++ be4 u) := ⟨by rw [List.length_append, Lib.byteCells_append, HF.out]; exact hown⟩
  clear hown hgrow hR1
  go_wp2
  go_ret
  exact ⟨v', rfl, hrow, hg⟩
end Go.Proofs.Qxb6618946a
