/-
  'Rows.FnInTreeUpperHashesFullLowerTilesSaid': the law's walk out of the contracts of InTree and zzExpect; the frame is the kit's.
-/
import Derived.Test.Qxb6617858aRows
import Derived.WalkKit
import Derived.ProofKit
import Derived.OpenShut
import Derived.ShutString
import Derived.Test.Qxb6617858aExpect
import Derived.Laws.StructEq
namespace Go.Proofs.Qxb6617858a.fnInTreeUpperHashesFullLowerTiles
open Go.ChangeShapes Go.WideShapes Go.ChangeAt Go.RowKit
open Go.ChangeMaps (open_string shut_string)
set_option linter.unusedVariables false      -- a walk need not use every 'w<i>' (that an integer argument fits its kind)

theorem own : ownKnob Try.prog.godebug = none := by kernel_rfl

/-! ### STEP 1: THE WALK: the Go text returns true. 'Grown w w'': the world has at most new blocks (Derived/RowKit3.lean). Part the cases AHEAD of 'go_enter' where a test parts the walk; take each callee by a contract of your own. -/
/-! ### THE PLAIN LAW -/
/-- A level holds one hash for every 256 of the level below. -/
theorem hs_down (level : Int) (h1 : 1 ≤ level) (h7 : level ≤ 7) (s : Int) : hsI level s = hsI (level - 1) s / 256 := by
  unfold hsI hs
  obtain ⟨k, hk⟩ : ∃ k : Nat, level = (k : Int) + 1 := ⟨(level - 1).toNat, by omega⟩
  rw [show min level.toNat 8 = k + 1 by omega, show min (level - 1).toNat 8 = k by omega, Nat.pow_succ, ← Nat.div_div_eq_div_mul, Int.natCast_ediv]
  rfl
/-- The i-th hash of the upper tile is there just where the lower tile is full. -/
theorem full_iff (g n i : Int) (g0 : 0 ≤ g) (n0 : 0 ≤ n) (i0 : 0 ≤ i) (i1 : i < 256) : i < twI (g / 256) n ↔ twI g (n * 256 + i) = 256 := by
  constructor
  · intro h
    have := twI_pos (h := g / 256) (n := n) (by omega)
    unfold twI
    rw [if_neg (by omega)]
    split <;> omega
  · intro h
    have := twI_pos (h := g) (n := n * 256 + i) (by omega)
    unfold twI
    rw [if_neg (by omega)]
    split <;> omega

set_option maxHeartbeats 1600000 in
theorem core (level n i s : Int) (l1 : 1 ≤ level) (l7 : level ≤ 7) (n0 : 0 ≤ n) (n1 : n < 72057594037927936) (i0 : 0 ≤ i) (i1 : i < 256) (s0 : 0 ≤ s) (s1 : s ≤ 18446744073709551615) (w : World) :
    Calls Try.prog 3 #[.int .i64 level, .int .u64 n, .int .i64 i, .int .u64 s] w fun e w' => e = .returned (.bool true) ∧ Grown w w' := by
  have hd := hs_down level l1 l7 s
  have hg := hsI_bd (level - 1) s s0
  have hf := full_iff (hsI (level - 1) s) n i hg.1 n0 i0 i1
  rw [← hd] at hf
  have bx := twI_nonneg (hsI level s) n
  have by_ := twI_nonneg (hsI (level - 1) s) (n * 256 + i)
  clear hd hg
  by_cases hx : twI (hsI level s) n = 0
  · have H1 := Lib.hid (fun W => inTree_noneI level n s _ n0 s0 s1 rfl hx W)
    have H3 := Lib.hid (fun W => expect_none level n s _ n0 s0 s1 rfl hx W)
    by_cases hy : twI (hsI (level - 1) s) (n * 256 + i) = 0
    · have H2 := Lib.hid (fun W => inTree_noneI (level - 1) (n * 256 + i) s _ (by omega) s0 s1 rfl hy W)
      clear hf bx by_ hx hy
      go_enter Try.func3, Try.ntmps3
      go_wp2_with fail
      refine (H1.out _).mono ?_
      rintro e w1 ⟨rfl, A1, B1, C1, rfl⟩
      go_wp2_with fail
      refine (H2.out _).mono ?_
      rintro e w2 ⟨rfl, A2, B2, C2, rfl⟩
      go_wp2_with fail
      refine (H3.out _).mono ?_
      rintro e w3 ⟨rfl, A3, rfl⟩
      go_wp2
      go_ret
      exact ⟨rfl, by repeat (first | exact Grown.refl _ | apply Grown.drew | apply Grown.alloc)⟩
    · obtain ⟨y, ey⟩ : ∃ y, y = twI (hsI (level - 1) s) (n * 256 + i) := ⟨_, rfl⟩
      have hne : (y == 256) = false := beq_eq_false_iff_ne.2 (by rw [ey]; intro hc; have := hf.2 hc; omega)
      have H2 := Lib.hid (fun W => inTree_someI (level - 1) (n * 256 + i) s _ y (by omega) s0 s1 rfl ey (by omega) W)
      clear hf bx by_ hx hy ey
      go_enter Try.func3, Try.ntmps3
      go_wp2_with fail
      refine (H1.out _).mono ?_
      rintro e w1 ⟨rfl, A1, B1, C1, rfl⟩
      go_wp2_with fail
      refine (H2.out _).mono ?_
      rintro e w2 ⟨rfl, A2, B2, C2, rfl⟩
      go_wp2_with fail
      refine (H3.out _).mono ?_
      rintro e w3 ⟨rfl, A3, rfl⟩
      go_wp2
      go_ret
      exact ⟨rfl, by repeat (first | exact Grown.refl _ | apply Grown.drew | apply Grown.alloc)⟩
  · obtain ⟨x, ex⟩ : ∃ x, x = twI (hsI level s) n := ⟨_, rfl⟩
    have H1 := Lib.hid (fun W => inTree_someI level n s _ x n0 s0 s1 rfl ex (by omega) W)
    have H3 := Lib.hid (fun W => expect_some level n s _ x n0 s0 s1 rfl ex (by omega) W)
    rw [← ex] at hf bx hx
    clear ex
    by_cases hi : i < x
    · have H2 := Lib.hid (fun W => inTree_someI (level - 1) (n * 256 + i) s _ 256 (by omega) s0 s1 rfl (hf.1 hi).symm (by omega) W)
      clear hf bx by_ hx
      go_enter Try.func3, Try.ntmps3
      go_wp2_with fail
      refine (H1.out _).mono ?_
      rintro e w1 ⟨rfl, A1, B1, C1, rfl⟩
      go_wp2_with fail
      refine (H2.out _).mono ?_
      rintro e w2 ⟨rfl, A2, B2, C2, rfl⟩
      go_wp2_with fail
      refine (H3.out _).mono ?_
      rintro e w3 ⟨rfl, A3, rfl⟩
      go_wp2
      go_ret
      exact ⟨rfl, by repeat (first | exact Grown.refl _ | apply Grown.drew | apply Grown.alloc)⟩
    · have hdi : decide (i < x) = false := decide_eq_false hi
      by_cases hy : twI (hsI (level - 1) s) (n * 256 + i) = 0
      · have H2 := Lib.hid (fun W => inTree_noneI (level - 1) (n * 256 + i) s _ (by omega) s0 s1 rfl hy W)
        clear hf bx by_ hx hy
        go_enter Try.func3, Try.ntmps3
        go_wp2_with fail
        refine (H1.out _).mono ?_
        rintro e w1 ⟨rfl, A1, B1, C1, rfl⟩
        go_wp2_with fail
        refine (H2.out _).mono ?_
        rintro e w2 ⟨rfl, A2, B2, C2, rfl⟩
        go_wp2_with fail
        refine (H3.out _).mono ?_
        rintro e w3 ⟨rfl, A3, rfl⟩
        go_wp2
        go_ret
        exact ⟨rfl, by repeat (first | exact Grown.refl _ | apply Grown.drew | apply Grown.alloc)⟩
      · obtain ⟨y, ey⟩ : ∃ y, y = twI (hsI (level - 1) s) (n * 256 + i) := ⟨_, rfl⟩
        have hne : (y == 256) = false := beq_eq_false_iff_ne.2 (by rw [ey]; intro hc; exact hi (hf.2 hc))
        have H2 := Lib.hid (fun W => inTree_someI (level - 1) (n * 256 + i) s _ y (by omega) s0 s1 rfl ey (by omega) W)
        clear hf bx by_ hx hy ey
        go_enter Try.func3, Try.ntmps3
        go_wp2_with fail
        refine (H1.out _).mono ?_
        rintro e w1 ⟨rfl, A1, B1, C1, rfl⟩
        go_wp2_with fail
        refine (H2.out _).mono ?_
        rintro e w2 ⟨rfl, A2, B2, C2, rfl⟩
        go_wp2_with fail
        refine (H3.out _).mono ?_
        rintro e w3 ⟨rfl, A3, rfl⟩
        go_wp2
        go_ret
        exact ⟨rfl, by repeat (first | exact Grown.refl _ | apply Grown.drew | apply Grown.alloc)⟩

theorem walk_out (level n i s : Int) (h : ¬ (1 ≤ level ∧ level ≤ 7 ∧ n < 72057594037927936 ∧ 0 ≤ i ∧ i < 256)) (w : World) :
    Calls Try.prog 3 #[.int .i64 level, .int .u64 n, .int .i64 i, .int .u64 s] w fun e w' => e = .returned (.bool true) ∧ Grown w w' := by
  by_cases c1 : level < 1
  · go_enter Try.func3, Try.ntmps3
    go_wp2
    go_ret
    exact ⟨rfl, Grown.refl _⟩
  by_cases c2 : 7 < level
  · go_enter Try.func3, Try.ntmps3
    go_wp2
    go_ret
    exact ⟨rfl, Grown.refl _⟩
  by_cases c3 : 72057594037927936 ≤ n
  · go_enter Try.func3, Try.ntmps3
    go_wp2
    go_ret
    exact ⟨rfl, Grown.refl _⟩
  by_cases c4 : i < 0
  · go_enter Try.func3, Try.ntmps3
    go_wp2
    go_ret
    exact ⟨rfl, Grown.refl _⟩
  have c5 : 256 ≤ i := by omega
  clear h
  go_enter Try.func3, Try.ntmps3
  go_wp2
  go_ret
  exact ⟨rfl, Grown.refl _⟩

theorem walk (a0 : Int) (a1 : Int) (a2 : Int) (a3 : Int) (w0 : (Lit.int .i64 a0).wf = true) (w1 : (Lit.int .u64 a1).wf = true) (w2 : (Lit.int .i64 a2).wf = true) (w3 : (Lit.int .u64 a3).wf = true) (w : World) :
    Calls Try.prog 3 #[.int .i64 a0, .int .u64 a1, .int .i64 a2, .int .u64 a3] w fun e w' => e = .returned (.bool true) ∧ Grown w w' := by
  have b1 := bounds_u64 w1
  have b3 := bounds_u64 w3
  by_cases h : 1 ≤ a0 ∧ a0 ≤ 7 ∧ a1 < 72057594037927936 ∧ 0 ≤ a2 ∧ a2 < 256
  · exact core a0 a1 a2 a3 h.1 h.2.1 b1.1 h.2.2.1 h.2.2.2.1 h.2.2.2.2 b3.1 b3.2 w
  · exact walk_out a0 a1 a2 a3 h w

/-! ### THE ROW's STEP: WRITTEN OUT: LEAVE IT -/
set_option maxRecDepth 100000 in
theorem lifted (os : Os) (started : os.Started) (H : Type) (enc : TypeId × Value → H) :
    ReturnsInHanded {} Try.checked os 3 .any (Rows.fnInTreeUpperHashesFullLowerTilesSpec.pre6 enc Try.prog Try.f3 Rows.fnInTreeUpperHashesFullLowerTilesRow.domain false) (Rows.fnInTreeUpperHashesFullLowerTilesSpec.post enc Try.prog Try.f3 false true false false) := by
  refine returnsInHanded_of_change (C := Try.checked) own started (by kernel_rfl) Try.func3
    (ChangeSpec.witness6 (enc := enc) (C := Try.checked) false ⟨#[], #[.int .i64 0, .int .u64 0, .int .i64 0, .int .u64 0], []⟩ 8 (by kernel_rfl) (by kernel_rfl) (by kernel_rfl) (by kernel_rfl)) ?_
  intro W base args ds gs before hval0 hW hcnd _
  have hval : ∀ (j : Nat) t v, Try.f3.params[j]? = some t → args[j]? = some v → Value.okWide Try.prog W .any base t v := hval0
  have hW' := hW
  obtain ⟨p, q, hA0, hV, rfl, hfz, hnd⟩ := hW
  have hA : DataW.TrodAll enc Try.prog W 0 (fun _ => true) true Try.f3.params.toList args.toList ds p := hA0
  rw [Try.params3] at hA hval
  obtain ⟨v0, vs0, d0, ds0, p0, q0, hargs, rfl, rfl, h0, r0⟩ := trodAll_cons hA
  obtain ⟨v1, vs1, d1, ds1, p1, q1, rfl, rfl, rfl, h1, r1⟩ := trodAll_cons r0
  obtain ⟨v2, vs2, d2, ds2, p2, q2, rfl, rfl, rfl, h2, r2⟩ := trodAll_cons r1
  obtain ⟨v3, vs3, d3, ds3, p3, q3, rfl, rfl, rfl, h3, r3⟩ := trodAll_cons r2
  obtain ⟨rfl, rfl, rfl⟩ := trodAll_nil r3
  obtain rfl : args = #[v0, v1, v2, v3] := by cases args; simp_all
  obtain ⟨rfl, rfl⟩ := trodVars_none hV
  obtain ⟨a0, rfl, rfl, rfl, w0⟩ := open_int Try.underlying3 (hval 0 3 v0 rfl rfl) h0
  obtain ⟨a1, rfl, rfl, rfl, w1⟩ := open_int Try.underlying22 (hval 1 22 v1 rfl rfl) h1
  obtain ⟨a2, rfl, rfl, rfl, w2⟩ := open_int Try.underlying3 (hval 2 3 v2 rfl rfl) h2
  obtain ⟨a3, rfl, rfl, rfl, w3⟩ := open_int Try.underlying22 (hval 3 22 v3 rfl rfl) h3
  clear hA0 hval0
  simp only [List.append_nil] at hW'
  refine (walk a0 a1 a2 a3 w0 w1 w2 w3 W).mono fun e W' ⟨he, hg⟩ => ?_
  subst he
  exact ⟨_, rfl, post_of_same (pa := []) (pv := []) hW' (fun _ _ _ => (trodAll_cons_mk (shut_bool Try.underlying4 _) trodAll_mk0)) (fun sp _ => (trodAll_cons_mk (shut_int Try.underlying3 w0) (trodAll_cons_mk (shut_int Try.underlying22 w1) (trodAll_cons_mk (shut_int Try.underlying3 w2) (trodAll_cons_mk (shut_int Try.underlying22 w3) trodAll_mk0))))) (fun _ _ => rfl) rfl
    (hg.frame _) hg.2.1 (ok_one (by kernel_rfl) rfl (okWide_bool_mk Try.underlying4 _))⟩

theorem over : Rows.fnInTreeUpperHashesFullLowerTilesRow.holds Try.pinned (OpenSpec.ofChange Rows.fnInTreeUpperHashesFullLowerTilesSpec) :=
  OpenClaim.holds_of_wide 3 Try.f3 rfl rfl rfl rfl rfl rfl rfl ⟨rfl, rfl, rfl, rfl, rfl⟩ rfl rfl rfl rfl rfl (by kernel_rfl) Try.func3 (by kernel_rfl)
    (of_decide_eq_true (by kernel_rfl)) (by unfold Func.isWrapper; first | (rw [if_pos (by decide +kernel)]; kernel_rfl) | (rw [if_neg (by decide +kernel)]; exact ⟨rfl, rfl⟩))
    (fun os started H enc _ => lifted os started H enc)

/-- ████ THE STATEMENT ████ -/
theorem proved : Rows.FnInTreeUpperHashesFullLowerTilesSaid :=
  over
#print axioms proved
end Go.Proofs.Qxb6617858a.fnInTreeUpperHashesFullLowerTiles
