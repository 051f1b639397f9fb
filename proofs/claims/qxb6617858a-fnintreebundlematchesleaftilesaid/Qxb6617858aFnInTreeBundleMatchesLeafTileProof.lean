/-
  'Rows.FnInTreeBundleMatchesLeafTileSaid': the law's walk out of the contracts of InTree and zzExpect; the frame is the kit's.
-/
import Derived.Test.Qxb6617858aRows
import Derived.WalkKit
import Derived.ProofKit
import Derived.OpenShut
import Derived.ShutString
import Derived.Test.Qxb6617858aExpect
import Derived.Laws.StructEq
namespace Go.Proofs.Qxb6617858a.fnInTreeBundleMatchesLeafTile
open Go.ChangeShapes Go.WideShapes Go.ChangeAt Go.RowKit
open Go.ChangeMaps (open_string shut_string)
set_option linter.unusedVariables false      -- a walk need not use every 'w<i>' (that an integer argument fits its kind)

theorem own : ownKnob Try.prog.godebug = none := by kernel_rfl

/-! ### STEP 1: THE WALK: the Go text returns true. 'Grown w w'': the world has at most new blocks (Derived/RowKit3.lean). Part the cases AHEAD of 'go_enter' where a test parts the walk; take each callee by a contract of your own. -/
theorem hsI_same (s : Int) (h : 0 ≤ s) : s = hsI (-1) s ∧ s = hsI 0 s := by
  unfold hsI hs
  simp
  omega

set_option maxHeartbeats 800000 in
theorem walk_some (n s x : Int) (n0 : 0 ≤ n) (h0 : 0 ≤ s) (h1 : s ≤ 18446744073709551615) (hx : x = twI s n) (hp : 0 < x) (w : World) :
    Calls Try.prog 5 #[.int .u64 n, .int .u64 s] w fun e w' => e = .returned (.bool true) ∧ Grown w w' := by
  have H1 := Lib.hid (fun W => inTree_someI (-1) n s s x n0 h0 h1 (hsI_same s h0).1 hx hp W)
  have H2 := Lib.hid (fun W => inTree_someI 0 n s s x n0 h0 h1 (hsI_same s h0).2 hx hp W)
  have H3 := Lib.hid (fun W => expect_some 0 n s s x n0 h0 h1 (hsI_same s h0).2 hx hp W)
  clear hx
  go_enter Try.func5, Try.ntmps5
  go_wp2_with fail
  refine (H1.out _).mono ?_
  rintro e w1 ⟨rfl, A1, B1, C1, rfl⟩
  go_wp2_with fail
  refine (H2.out _).mono ?_
  rintro e w2 ⟨rfl, A2, B2, C2, rfl⟩
  go_wp2_with fail
  refine (H3.out _).mono ?_
  rintro e w3 ⟨rfl, A3, rfl⟩
  go_wp2
  go_ret
  exact ⟨rfl, by repeat (first | exact Grown.refl _ | apply Grown.drew | apply Grown.alloc)⟩

set_option maxHeartbeats 800000 in
theorem walk_none (n s : Int) (n0 : 0 ≤ n) (h0 : 0 ≤ s) (h1 : s ≤ 18446744073709551615) (hx : twI s n = 0) (w : World) :
    Calls Try.prog 5 #[.int .u64 n, .int .u64 s] w fun e w' => e = .returned (.bool true) ∧ Grown w w' := by
  have H1 := Lib.hid (fun W => inTree_noneI (-1) n s s n0 h0 h1 (hsI_same s h0).1 hx W)
  have H2 := Lib.hid (fun W => inTree_noneI 0 n s s n0 h0 h1 (hsI_same s h0).2 hx W)
  have H3 := Lib.hid (fun W => expect_none 0 n s s n0 h0 h1 (hsI_same s h0).2 hx W)
  clear hx
  go_enter Try.func5, Try.ntmps5
  go_wp2_with fail
  refine (H1.out _).mono ?_
  rintro e w1 ⟨rfl, A1, B1, C1, rfl⟩
  go_wp2_with fail
  refine (H2.out _).mono ?_
  rintro e w2 ⟨rfl, A2, B2, C2, rfl⟩
  go_wp2_with fail
  refine (H3.out _).mono ?_
  rintro e w3 ⟨rfl, A3, rfl⟩
  go_wp2
  go_ret
  exact ⟨rfl, by repeat (first | exact Grown.refl _ | apply Grown.drew | apply Grown.alloc)⟩

theorem walk (a0 : Int) (a1 : Int) (w0 : (Lit.int .u64 a0).wf = true) (w1 : (Lit.int .u64 a1).wf = true) (w : World) :
    Calls Try.prog 5 #[.int .u64 a0, .int .u64 a1] w fun e w' => e = .returned (.bool true) ∧ Grown w w' := by
  have b0 := bounds_u64 w0
  have b1 := bounds_u64 w1
  by_cases hx : twI a1 a0 = 0
  · exact walk_none a0 a1 b0.1 b1.1 b1.2 hx w
  · exact walk_some a0 a1 _ b0.1 b1.1 b1.2 rfl (by have := twI_nonneg a1 a0; omega) w

/-! ### THE ROW's STEP: WRITTEN OUT: LEAVE IT -/
set_option maxRecDepth 100000 in
theorem lifted (os : Os) (started : os.Started) (H : Type) (enc : TypeId × Value → H) :
    ReturnsInHanded {} Try.checked os 5 .any (Rows.fnInTreeBundleMatchesLeafTileSpec.pre6 enc Try.prog Try.f5 Rows.fnInTreeBundleMatchesLeafTileRow.domain false) (Rows.fnInTreeBundleMatchesLeafTileSpec.post enc Try.prog Try.f5 false true false false) := by
  refine returnsInHanded_of_change (C := Try.checked) own started (by kernel_rfl) Try.func5
    (ChangeSpec.witness6 (enc := enc) (C := Try.checked) false ⟨#[], #[.int .u64 0, .int .u64 0], []⟩ 8 (by kernel_rfl) (by kernel_rfl) (by kernel_rfl) (by kernel_rfl)) ?_
  intro W base args ds gs before hval0 hW hcnd _
  have hval : ∀ (j : Nat) t v, Try.f5.params[j]? = some t → args[j]? = some v → Value.okWide Try.prog W .any base t v := hval0
  have hW' := hW
  obtain ⟨p, q, hA0, hV, rfl, hfz, hnd⟩ := hW
  have hA : DataW.TrodAll enc Try.prog W 0 (fun _ => true) true Try.f5.params.toList args.toList ds p := hA0
  rw [Try.params5] at hA hval
  obtain ⟨v0, vs0, d0, ds0, p0, q0, hargs, rfl, rfl, h0, r0⟩ := trodAll_cons hA
  obtain ⟨v1, vs1, d1, ds1, p1, q1, rfl, rfl, rfl, h1, r1⟩ := trodAll_cons r0
  obtain ⟨rfl, rfl, rfl⟩ := trodAll_nil r1
  obtain rfl : args = #[v0, v1] := by cases args; simp_all
  obtain ⟨rfl, rfl⟩ := trodVars_none hV
  obtain ⟨a0, rfl, rfl, rfl, w0⟩ := open_int Try.underlying22 (hval 0 22 v0 rfl rfl) h0
  obtain ⟨a1, rfl, rfl, rfl, w1⟩ := open_int Try.underlying22 (hval 1 22 v1 rfl rfl) h1
  clear hA0 hval0
  simp only [List.append_nil] at hW'
  refine (walk a0 a1 w0 w1 W).mono fun e W' ⟨he, hg⟩ => ?_
  subst he
  exact ⟨_, rfl, post_of_same (pa := []) (pv := []) hW' (fun _ _ _ => (trodAll_cons_mk (shut_bool Try.underlying4 _) trodAll_mk0)) (fun sp _ => (trodAll_cons_mk (shut_int Try.underlying22 w0) (trodAll_cons_mk (shut_int Try.underlying22 w1) trodAll_mk0))) (fun _ _ => rfl) rfl
    (hg.frame _) hg.2.1 (ok_one (by kernel_rfl) rfl (okWide_bool_mk Try.underlying4 _))⟩

theorem over : Rows.fnInTreeBundleMatchesLeafTileRow.holds Try.pinned (OpenSpec.ofChange Rows.fnInTreeBundleMatchesLeafTileSpec) :=
  OpenClaim.holds_of_wide 5 Try.f5 rfl rfl rfl rfl rfl rfl rfl ⟨rfl, rfl, rfl, rfl, rfl⟩ rfl rfl rfl rfl rfl (by kernel_rfl) Try.func5 (by kernel_rfl)
    (of_decide_eq_true (by kernel_rfl)) (by unfold Func.isWrapper; first | (rw [if_pos (by decide +kernel)]; kernel_rfl) | (rw [if_neg (by decide +kernel)]; exact ⟨rfl, rfl⟩))
    (fun os started H enc _ => lifted os started H enc)

/-- ████ THE STATEMENT ████ -/
theorem proved : Rows.FnInTreeBundleMatchesLeafTileSaid :=
  over
#print axioms proved
end Go.Proofs.Qxb6617858a.fnInTreeBundleMatchesLeafTile
