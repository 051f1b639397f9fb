/-
  'Rows.FnInTreeGrowsWithTreeSaid': the law's walk out of the contracts of InTree and zzExpect; the frame is the kit's.
-/
import Derived.Test.Qxb6617858aRows
import Derived.WalkKit
import Derived.ProofKit
import Derived.OpenShut
import Derived.ShutString
import Derived.Test.Qxb6617858aExpect
import Derived.Laws.StructEq
namespace Go.Proofs.Qxb6617858a.fnInTreeGrowsWithTree
open Go.ChangeShapes Go.WideShapes Go.ChangeAt Go.RowKit
open Go.ChangeMaps (open_string shut_string)
set_option linter.unusedVariables false      -- a walk need not use every 'w<i>' (that an integer argument fits its kind)

theorem own : ownKnob Try.prog.godebug = none := by kernel_rfl

/-! ### STEP 1: THE WALK: the Go text returns true. 'Grown w w'': the world has at most new blocks (Derived/RowKit3.lean). Part the cases AHEAD of 'go_enter' where a test parts the walk; take each callee by a contract of your own. -/
theorem hs_mono (level : Int) {a b : Nat} (h : a ≤ b) : hs level a ≤ hs level b := Nat.div_le_div_right h
theorem hsI_mono (level : Int) {a b : Int} (h : a ≤ b) : hsI level a ≤ hsI level b := by
  have := hs_mono level (show a.toNat ≤ b.toNat by omega)
  unfold hsI
  omega
theorem twI_mono {a b : Int} (n : Int) (h : a ≤ b) : twI a n ≤ twI b n := by
  by_cases c1 : a ≤ 256 * n
  · have e : twI a n = 0 := by unfold twI; rw [if_pos c1]
    rw [e]
    exact (twI_nonneg b n).1
  · unfold twI
    rw [if_neg c1, if_neg (show ¬ b ≤ 256 * n by omega)]
    by_cases c2 : a - 256 * n ≤ 256
    · rw [if_pos c2]
      split <;> omega
    · rw [if_neg c2, if_neg (by omega)]
      exact Int.le_refl _

set_option maxHeartbeats 1600000 in
theorem core (level n sm bg : Int) (g0 : -1 ≤ level) (n0 : 0 ≤ n) (s0 : 0 ≤ sm) (sb : sm ≤ bg) (h1 : bg ≤ 18446744073709551615) (p q : Int) (hpq : (p = sm ∧ q = bg ∧ ¬ bg < sm) ∨ (p = bg ∧ q = sm ∧ sm < bg)) (w : World) :
    Calls Try.prog 4 #[.int .i64 level, .int .u64 n, .int .u64 p, .int .u64 q] w fun e w' => e = .returned (.bool true) ∧ Grown w w' := by
  have hm := twI_mono n (hsI_mono level sb)
  have ba := twI_nonneg (hsI level sm) n
  have bb := twI_nonneg (hsI level bg) n
  by_cases ha : twI (hsI level sm) n = 0
  · have H1 := Lib.hid (fun W => inTree_noneI level n sm _ n0 s0 (by omega) rfl ha W)
    have H3 := Lib.hid (fun W => expect_none level n sm _ n0 s0 (by omega) rfl ha W)
    by_cases hb : twI (hsI level bg) n = 0
    · have H2 := Lib.hid (fun W => inTree_noneI level n bg _ n0 (by omega) h1 rfl hb W)
      clear hm ba bb ha hb
      rcases hpq with ⟨rfl, rfl, hc⟩ | ⟨rfl, rfl, hc⟩
      all_goals
        go_enter Try.func4, Try.ntmps4
        go_wp2_with fail
        refine (H1.out _).mono ?_
        rintro e w1 ⟨rfl, A1, B1, C1, rfl⟩
        go_wp2_with fail
        refine (H2.out _).mono ?_
        rintro e w2 ⟨rfl, A2, B2, C2, rfl⟩
        go_wp2_with fail
        refine (H3.out _).mono ?_
        rintro e w3 ⟨rfl, A3, rfl⟩
        go_wp2
        go_ret
        exact ⟨rfl, by repeat (first | exact Grown.refl _ | apply Grown.drew | apply Grown.alloc)⟩
    · obtain ⟨y, hy⟩ : ∃ y, y = twI (hsI level bg) n := ⟨_, rfl⟩
      have H2 := Lib.hid (fun W => inTree_someI level n bg _ y n0 (by omega) h1 rfl hy (by omega) W)
      clear hm ba bb ha hb hy
      rcases hpq with ⟨rfl, rfl, hc⟩ | ⟨rfl, rfl, hc⟩
      all_goals
        go_enter Try.func4, Try.ntmps4
        go_wp2_with fail
        refine (H1.out _).mono ?_
        rintro e w1 ⟨rfl, A1, B1, C1, rfl⟩
        go_wp2_with fail
        refine (H2.out _).mono ?_
        rintro e w2 ⟨rfl, A2, B2, C2, rfl⟩
        go_wp2_with fail
        refine (H3.out _).mono ?_
        rintro e w3 ⟨rfl, A3, rfl⟩
        go_wp2
        go_ret
        exact ⟨rfl, by repeat (first | exact Grown.refl _ | apply Grown.drew | apply Grown.alloc)⟩
  · obtain ⟨x, hx⟩ : ∃ x, x = twI (hsI level sm) n := ⟨_, rfl⟩
    obtain ⟨y, hy⟩ : ∃ y, y = twI (hsI level bg) n := ⟨_, rfl⟩
    have hxy : x ≤ y := by omega
    have h256 : ((x != 256) = true) ∨ (x = 256 ∧ y = 256) := by
      by_cases e : x = 256
      · exact .inr ⟨e, by omega⟩
      · exact .inl (by simp [e])
    have H1 := Lib.hid (fun W => inTree_someI level n sm _ x n0 s0 (by omega) rfl hx (by omega) W)
    have H3 := Lib.hid (fun W => expect_some level n sm _ x n0 s0 (by omega) rfl hx (by omega) W)
    have H2 := Lib.hid (fun W => inTree_someI level n bg _ y n0 (by omega) h1 rfl hy (by omega) W)
    clear hm ba bb ha hx hy
    rcases h256 with hne | ⟨rfl, rfl⟩
    all_goals
      rcases hpq with ⟨rfl, rfl, hc⟩ | ⟨rfl, rfl, hc⟩
      all_goals
        go_enter Try.func4, Try.ntmps4
        go_wp2_with fail
        refine (H1.out _).mono ?_
        rintro e w1 ⟨rfl, A1, B1, C1, rfl⟩
        go_wp2_with fail
        refine (H2.out _).mono ?_
        rintro e w2 ⟨rfl, A2, B2, C2, rfl⟩
        go_wp2_with fail
        refine (H3.out _).mono ?_
        rintro e w3 ⟨rfl, A3, rfl⟩
        go_wp2
        go_ret
        exact ⟨rfl, by repeat (first | exact Grown.refl _ | apply Grown.drew | apply Grown.alloc)⟩

theorem walk_out (level n p q : Int) (g0 : level < -1) (w : World) :
    Calls Try.prog 4 #[.int .i64 level, .int .u64 n, .int .u64 p, .int .u64 q] w fun e w' => e = .returned (.bool true) ∧ Grown w w' := by
  go_enter Try.func4, Try.ntmps4
  go_wp2
  go_ret
  exact ⟨rfl, Grown.refl _⟩

theorem walk (a0 : Int) (a1 : Int) (a2 : Int) (a3 : Int) (w0 : (Lit.int .i64 a0).wf = true) (w1 : (Lit.int .u64 a1).wf = true) (w2 : (Lit.int .u64 a2).wf = true) (w3 : (Lit.int .u64 a3).wf = true) (w : World) :
    Calls Try.prog 4 #[.int .i64 a0, .int .u64 a1, .int .u64 a2, .int .u64 a3] w fun e w' => e = .returned (.bool true) ∧ Grown w w' := by
  have b1 := bounds_u64 w1
  have b2 := bounds_u64 w2
  have b3 := bounds_u64 w3
  by_cases h : a0 < -1
  · exact walk_out a0 a1 a2 a3 h w
  by_cases hc : a3 < a2
  · exact core a0 a1 a3 a2 (by omega) b1.1 b3.1 (by omega) b2.2 a2 a3 (.inr ⟨rfl, rfl, hc⟩) w
  · exact core a0 a1 a2 a3 (by omega) b1.1 b2.1 (by omega) b3.2 a2 a3 (.inl ⟨rfl, rfl, hc⟩) w

/-! ### THE ROW's STEP: WRITTEN OUT: LEAVE IT -/
set_option maxRecDepth 100000 in
theorem lifted (os : Os) (started : os.Started) (H : Type) (enc : TypeId × Value → H) :
    ReturnsInHanded {} Try.checked os 4 .any (Rows.fnInTreeGrowsWithTreeSpec.pre6 enc Try.prog Try.f4 Rows.fnInTreeGrowsWithTreeRow.domain false) (Rows.fnInTreeGrowsWithTreeSpec.post enc Try.prog Try.f4 false true false false) := by
  refine returnsInHanded_of_change (C := Try.checked) own started (by kernel_rfl) Try.func4
    (ChangeSpec.witness6 (enc := enc) (C := Try.checked) false ⟨#[], #[.int .i64 0, .int .u64 0, .int .u64 0, .int .u64 0], []⟩ 8 (by kernel_rfl) (by kernel_rfl) (by kernel_rfl) (by kernel_rfl)) ?_
  intro W base args ds gs before hval0 hW hcnd _
  have hval : ∀ (j : Nat) t v, Try.f4.params[j]? = some t → args[j]? = some v → Value.okWide Try.prog W .any base t v := hval0
  have hW' := hW
  obtain ⟨p, q, hA0, hV, rfl, hfz, hnd⟩ := hW
  have hA : DataW.TrodAll enc Try.prog W 0 (fun _ => true) true Try.f4.params.toList args.toList ds p := hA0
  rw [Try.params4] at hA hval
  obtain ⟨v0, vs0, d0, ds0, p0, q0, hargs, rfl, rfl, h0, r0⟩ := trodAll_cons hA
  obtain ⟨v1, vs1, d1, ds1, p1, q1, rfl, rfl, rfl, h1, r1⟩ := trodAll_cons r0
  obtain ⟨v2, vs2, d2, ds2, p2, q2, rfl, rfl, rfl, h2, r2⟩ := trodAll_cons r1
  obtain ⟨v3, vs3, d3, ds3, p3, q3, rfl, rfl, rfl, h3, r3⟩ := trodAll_cons r2
  obtain ⟨rfl, rfl, rfl⟩ := trodAll_nil r3
  obtain rfl : args = #[v0, v1, v2, v3] := by cases args; simp_all
  obtain ⟨rfl, rfl⟩ := trodVars_none hV
  obtain ⟨a0, rfl, rfl, rfl, w0⟩ := open_int Try.underlying3 (hval 0 3 v0 rfl rfl) h0
  obtain ⟨a1, rfl, rfl, rfl, w1⟩ := open_int Try.underlying22 (hval 1 22 v1 rfl rfl) h1
  obtain ⟨a2, rfl, rfl, rfl, w2⟩ := open_int Try.underlying22 (hval 2 22 v2 rfl rfl) h2
  obtain ⟨a3, rfl, rfl, rfl, w3⟩ := open_int Try.underlying22 (hval 3 22 v3 rfl rfl) h3
  clear hA0 hval0
  simp only [List.append_nil] at hW'
  refine (walk a0 a1 a2 a3 w0 w1 w2 w3 W).mono fun e W' ⟨he, hg⟩ => ?_
  subst he
  exact ⟨_, rfl, post_of_same (pa := []) (pv := []) hW' (fun _ _ _ => (trodAll_cons_mk (shut_bool Try.underlying4 _) trodAll_mk0)) (fun sp _ => (trodAll_cons_mk (shut_int Try.underlying3 w0) (trodAll_cons_mk (shut_int Try.underlying22 w1) (trodAll_cons_mk (shut_int Try.underlying22 w2) (trodAll_cons_mk (shut_int Try.underlying22 w3) trodAll_mk0))))) (fun _ _ => rfl) rfl
    (hg.frame _) hg.2.1 (ok_one (by kernel_rfl) rfl (okWide_bool_mk Try.underlying4 _))⟩

theorem over : Rows.fnInTreeGrowsWithTreeRow.holds Try.pinned (OpenSpec.ofChange Rows.fnInTreeGrowsWithTreeSpec) :=
  OpenClaim.holds_of_wide 4 Try.f4 rfl rfl rfl rfl rfl rfl rfl ⟨rfl, rfl, rfl, rfl, rfl⟩ rfl rfl rfl rfl rfl (by kernel_rfl) Try.func4 (by kernel_rfl)
    (of_decide_eq_true (by kernel_rfl)) (by unfold Func.isWrapper; first | (rw [if_pos (by decide +kernel)]; kernel_rfl) | (rw [if_neg (by decide +kernel)]; exact ⟨rfl, rfl⟩))
    (fun os started H enc _ => lifted os started H enc)

/-- ████ THE STATEMENT ████ -/
theorem proved : Rows.FnInTreeGrowsWithTreeSaid :=
  over
#print axioms proved
end Go.Proofs.Qxb6617858a.fnInTreeGrowsWithTree
