import Derived.Test.Qxb6618946aSeq
namespace Go.Proofs.Qxb6618946a
open Go.RowKit Go.Shelf
set_option linter.unusedVariables false

/-! ### ZZSeqOf: the slice value is boxed; the function value captures the box -/
set_option maxHeartbeats 800000 in
theorem values_calls (a : Option Addr) (len cap : Nat) (w : World) :
    Calls Try.prog 25 #[.slice a len cap] w fun e w' => e = .returned (.func (.func 26) #[] #[.pointer (some ⟨w.heap.size, 0, none⟩)]) ∧ w' = w.alloc (.cells #[.slice a len cap] 31) := by
  go_enter Try.func25, Try.ntmps25
  go_wp2
  go_ret
  exact ⟨rfl, rfl⟩
set_option maxHeartbeats 800000 in
theorem seqOf_calls (a : Option Addr) (len cap : Nat) (w : World) :
    Calls Try.prog 19 #[.slice a len cap] w fun e w' => e = .returned (.func (.func 26) #[] #[.pointer (some ⟨w.heap.size, 0, none⟩)]) ∧ w' = w.alloc (.cells #[.slice a len cap] 31) := by
  go_enter Try.func19, Try.ntmps19
  go_wp2_with (go_at_call 25; refine (values_calls _ _ _ _).mono ?_; rintro e w' ⟨rfl, rfl⟩)
  go_ret
  exact ⟨rfl, rfl⟩

/-! ### StringSeq -/
/-- The strings, one behind the other, as the encoding lays them. -/
def flat (zs : List S20) : List UInt8 := zs.flatMap fun s => encS s.1
theorem flat_snoc (pre : List S20) (x : S20) : flat (pre ++ [x]) = flat pre ++ encS x.1 := by simp [flat]
theorem flat_append (a b : List S20) : flat (a ++ b) = flat a ++ flat b := by simp [flat]
theorem flat_length : ∀ zs : List S20, (flat zs).length ≤ zs.length * 1048580
  | [] => by simp [flat]
  | x :: r => by
    have h := flat_length r
    have e : flat (x :: r) = encS x.1 ++ flat r := by simp [flat]
    rw [e, List.length_append, encS_length, List.length_cons]
    have := x.2
    omega

attribute [local go_sem] Oper.semAt_some

theorem Enc.alloc {W : World} {B E : Nat} {l : List UInt8} (h : Enc W B E l) (o : Obj) : Enc (W.alloc o) B E l := by
  obtain ⟨v, h1, h2⟩ := h.ex
  exact ⟨v, h1.alloc o, ⟨h2.own.alloc o⟩⟩
theorem Enc.putObj {W : World} {B E D : Nat} {l : List UInt8} {o : Obj} (h : Enc W B E l) (o' : Obj) (hD : W.heap[D]? = some o) (ho : o.isCells = false) : Enc (W.putObj D o') B E l := by
  obtain ⟨v, h1, h2⟩ := h.ex
  refine ⟨v, h1.kept (grownBy_putObj' W D o') (fun e => ?_), ⟨ownsRow_putObj h2.own o' hD ho⟩⟩
  obtain rfl : E = D := by cases e; rfl
  rw [show W.heap[E]? = _ from h1] at hD
  cases hD
  cases ho
theorem Enc.lt {W : World} {B E : Nat} {l : List UInt8} (h : Enc W B E l) : E < W.heap.size := by
  obtain ⟨v, h1, h2⟩ := h.ex
  exact h1.lt
/-- The invariant of the loop's rounds. -/
def Inv (B E Bx : Nat) (l1 : List UInt8) (w : World) (pre : List S20) (W : World) : Prop :=
  ((∃ v, Boxed W E 44 v ∧ W.ownsRow B 5 1 v (l1 ++ flat pre).length (Lib.byteCells (l1 ++ flat pre)) ∧ True) ∧ Boxed W Bx 26 (.pointer (some ⟨E, 0, none⟩))) ∧ Below B w W
theorem Inv.own (B E Bx : Nat) (l1 : List UInt8) (w : World) (C : Nat) (hB : B ≤ w.heap.size) (hC : B ≤ C) : OwnFrom C (Inv B E Bx l1 w) :=
  OwnFrom.and (OwnFrom.and (Own.from (holdsRow_own B E 44 5 1 (fun pre => (l1 ++ flat pre).length) (fun pre => Lib.byteCells (l1 ++ flat pre)) (fun _ _ => True)) _) (Own.from (boxed_own Bx 26 (fun _ => .pointer (some ⟨E, 0, none⟩))) _)) (ownFrom_below hB hC)
theorem Inv.enc {B E Bx : Nat} {l1 : List UInt8} {w W : World} {pre : List S20} (h : Inv B E Bx l1 w pre W) : Enc W B E (l1 ++ flat pre) := by
  obtain ⟨⟨⟨v, h1, h2, _⟩, _⟩, _⟩ := h
  exact ⟨v, h1, ⟨h2⟩⟩
theorem Inv.mk {B E Bx : Nat} {l1 : List UInt8} {w W : World} {pre : List S20} (h : Enc W B E (l1 ++ flat pre)) (hb : Boxed W Bx 26 (.pointer (some ⟨E, 0, none⟩))) (hB : Below B w W) : Inv B E Bx l1 w pre W := by
  obtain ⟨v, h1, h2⟩ := h.ex
  exact ⟨⟨⟨v, h1, h2.own, trivial⟩, hb⟩, hB⟩

set_option maxRecDepth 100000 in
set_option maxHeartbeats 4000000 in
theorem stringSeq_calls (B E Bs u : Nat) (n : Int) (hx : IntKind.u32.wrap (wrap32 n) = (u : Int)) (hu : u < 4294967296) (sv : Value) (zs : List S20) (hz : zs.length ≤ 65536) (l : List UInt8) (w : World) (he : Enc w B E l) (hBE : B ≤ E)
    (hlim : l.length ≤ 1073741824) (hBs : Boxed w Bs 31 sv) (hS : Strs B w sv zs) (hBsE : Bs ≠ E) :
    Calls Try.prog 18 #[.pointer (some ⟨E, 0, none⟩), .int .i64 n, .func (.func 26) #[] #[.pointer (some ⟨Bs, 0, none⟩)]] w fun e w' => e = .returned (.tuple #[]) ∧ Enc w' B E (l ++ be4 u ++ flat zs) ∧ Below B w w' := by
  have hE := he.lt
  have hBw : B ≤ w.heap.size := by omega
  refine (callsIn_wide (n := 3)).1 ?_
  refine callsIn_of_wp_marks Try.func18 rfl trivial ?_ rfl
  simp only [Try.ntmps18, List.size_toArray, List.length_cons, List.length_nil, Nat.reduceAdd, Nat.reduceSub, Array.replicate_succ, Array.replicate_zero, List.push_toArray, List.append_toArray, List.nil_append, List.cons_append]
  gi_wp2
  refine ⟨trivial, ?_⟩
  refine (callsIn_wide.2 (int_calls B E u (wrap32 n) hx hu l _ (he.alloc _) (by simp; omega) hBE (by omega))).mono ?_
  rintro e W1 ⟨rfl, he1, hb1, hf1⟩
  have bE := hf1.box (Boxed.new w 26 (.pointer (some ⟨E, 0, none⟩))) (by omega) (by decide)
  have bS := hf1.box (hBs.alloc _) hBsE (by decide)
  have hB1 : Below B w W1 := ((Below.refl B w).alloc hBw _).trans hb1
  have hS1 := hS.below hB1
  have hl1 : (l ++ be4 u).length = l.length + 4 := by rw [List.length_append]; rfl
  have hsz : B ≤ W1.heap.size := Nat.le_trans hBw hB1.size
  have HI := Lib.hid (Inv.mk (pre := []) (by simpa [flat] using he1) bE hB1)
  have HX := Lib.hid hx
  generalize hLe : l ++ be4 u = l1 at *
  have HLe := Lib.hid hLe
  clear hLe hb1 hf1 hx he1 he
  gi_wp2
  refine wpIn_rangeFunc_ownG rfl (by omega) (gf := 26) (lb := #[.pointer (some ⟨Bs, 0, none⟩)]) rfl trivial (enters_of Try.func26 (by kernel_rfl) rfl)
    (values_stops Fence.wide _ trivial rfl (by omega) Bs B sv zs (by omega) _ bS.lt hsz bS.cell hS1) belowK_t (belowK_b hsz) (Below.refl _ _) (fun _ => rfl)
    (Inv B E w.heap.size l1 w) (fun _ _ _ => False) (Inv.own B E w.heap.size l1 w _ hBw hsz) (fun _ _ _ _ _ hs _ _ => hs) HI.out
    (fun x => { tmps := #[.pointer (some ⟨E, 0, none⟩), .int .i64 n, .func (.func 26) #[] #[.pointer (some ⟨Bs, 0, none⟩)], .pointer (some ⟨w.heap.size, 0, none⟩), undef, undef, .string x.1, .pointer (some ⟨E, 0, none⟩), .int .i64 n, .int .i32 (wrap32 n), .tuple #[], .func (.func 26) #[] #[.pointer (some ⟨Bs, 0, none⟩)], .string x.1, undef, undef, undef], defers := [] }) ?assign ?body ?done ?stop
  case assign =>
    intro l x W K hK
    gi_wp2
    exact hK
  case body =>
    rintro lb pre x W hI hlt
    have hc := hI.1.2.cell
    have hfl := flat_length pre
    have hle : (l1 ++ flat pre).length ≤ 549755813888 := by rw [List.length_append]; omega
    have HE := Lib.hid hI.enc
    have hBW : B ≤ W.heap.size := Nat.le_trans hBw hI.2.size
    have HV := Lib.hid hI
    clear hI hfl
    gi_wp2_with (refine ⟨trivial, ?_⟩; gi_at_call 24; refine (CallsIn.inRound lb (callsIn_wide.2 (string_calls B E x.1 x.2 (l1 ++ flat pre) W HE.out hBW hBE hle))).mono ?_; rintro e w' ⟨rfl, he2, hb2, hf2⟩)
    exact ⟨hf2.keeps.from _, hb2, Inv.mk (by rw [flat_snoc, ← List.append_assoc]; exact he2) (hf2.box HV.out.1.2 (by omega) (by decide)) (HV.out.2.trans hb2)⟩
  case done =>
    rintro D ys W hD rfl hI hK
    gi_wp2
    refine ⟨by simp, .inl ⟨_, _, rfl, run_takeDeferred hK, ?_⟩⟩
    exact ⟨_, results_none rfl _ _ _, rfl, by rw [HLe.out]; exact hI.enc.putObj _ hK rfl, hI.2.trans (belowK_b (w := W1) hsz W D _ _ hD hK rfl rfl)⟩
  case stop =>
    rintro D c pre W _ _ h _
    exact h.elim
end Go.Proofs.Qxb6618946a
