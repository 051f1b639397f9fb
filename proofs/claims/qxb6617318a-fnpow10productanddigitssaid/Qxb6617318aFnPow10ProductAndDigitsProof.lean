/-
  'Rows.FnPow10ProductAndDigitsSaid': the law's walk out of the contracts of ZZpow10 and zzUtoa; the frame is the kit's.
-/
import Derived.Test.Qxb6617318aRows
import Derived.WalkKit
import Derived.ProofKit
import Derived.OpenShut
import Derived.ShutString
import Derived.Test.Qxb6617318aUtoa
import Derived.Deep.RegionWith
namespace Go.Proofs.Qxb6617318a.fnPow10ProductAndDigits
open Go.ChangeShapes Go.WideShapes Go.ChangeAt Go.RowKit
open Go.ChangeMaps (open_string shut_string)
set_option linter.unusedVariables false      -- a walk need not use every 'w<i>' (that an integer argument fits its kind)

theorem own : ownKnob Try.prog.godebug = none := by kernel_rfl

/-! ### STEP 1: THE WALK: the Go text returns true. 'Grown w w'': the world has at most new blocks (Derived/RowKit3.lean). Part the cases AHEAD of 'go_enter' where a test parts the walk; take each callee by a contract of your own. -/
theorem zzpow10_calls (x : Int) (h0 : 0 ≤ x) (h1 : x ≤ 19) (w : World) :
    Calls Try.prog 4 #[.int .i64 x] w fun e w' => e = .returned (.int .u64 (p10 x.toNat)) ∧ w = w' := by
  obtain ⟨n, rfl⟩ := Int.eq_ofNat_of_zero_le h0
  rw [Int.toNat_natCast]
  go_enter Try.func4, Try.ntmps4
  go_wp2_with (go_at_call 6; refine (pow10_calls n (by omega) _).mono ?_; rintro e w' ⟨rfl, rfl⟩)
  go_ret
  exact ⟨rfl, rfl⟩

theorem walk_out (a0 a1 : Int) (h : ¬ (0 ≤ a0 ∧ a0 ≤ 19 ∧ 0 ≤ a1 ∧ a1 ≤ 19 ∧ a0 + a1 ≤ 19)) (w : World) :
    Calls Try.prog 3 #[.int .i64 a0, .int .i64 a1] w fun e w' => e = .returned (.bool true) ∧ Grown w w' := by
  by_cases c1 : a0 < 0
  · go_enter Try.func3, Try.ntmps3
    go_wp2
    go_ret
    exact ⟨rfl, Grown.refl _⟩
  by_cases c2 : 19 < a0
  · go_enter Try.func3, Try.ntmps3
    go_wp2
    go_ret
    exact ⟨rfl, Grown.refl _⟩
  by_cases c3 : a1 < 0
  · go_enter Try.func3, Try.ntmps3
    go_wp2
    go_ret
    exact ⟨rfl, Grown.refl _⟩
  by_cases c4 : 19 < a1
  · go_enter Try.func3, Try.ntmps3
    go_wp2
    go_ret
    exact ⟨rfl, Grown.refl _⟩
  have c5 : 19 < a0 + a1 := by omega
  clear h
  go_enter Try.func3, Try.ntmps3
  go_wp2
  go_ret
  exact ⟨rfl, Grown.refl _⟩

/-! ### THE PLAIN PART: the numeral of a power of ten -/
theorem dec_pow : ∀ n : Nat, Lib.decDigits (10 ^ n) = 49 :: List.replicate n 48
  | 0 => by rw [Lib.decDigits_one (by simp)]; rfl
  | n + 1 => by
    have hp : 0 < 10 ^ n := Nat.pow_pos (by omega)
    rw [Lib.decDigits, dif_neg (by rw [Nat.pow_succ]; omega), Nat.pow_succ, Nat.mul_div_cancel _ (by omega), dec_pow n, Nat.mul_mod_left, List.replicate_succ', List.cons_append]
    rfl
theorem p10_mul (a b : Nat) (h : a + b ≤ 19) : (p10 (a + b) != IntKind.u64.wrap (p10 a * p10 b)) = false := by
  have e : p10 a * p10 b = p10 (a + b) := by unfold p10; rw [Nat.pow_add]; simp
  have hb := p10_le (a + b) h
  rw [e, IntKind.wrap_u64, Int.emod_eq_of_lt (by omega) (by omega)]
  simp
/-- The array 'e' behind the rounds below i. -/
def eF (i : Nat) : Nat → Int := fun j => if j = 0 then 49 else if j < i then 48 else 0
theorem e_start : (#[Value.int .u8 49, .int .u8 0, .int .u8 0, .int .u8 0, .int .u8 0, .int .u8 0, .int .u8 0, .int .u8 0, .int .u8 0, .int .u8 0, .int .u8 0, .int .u8 0, .int .u8 0, .int .u8 0, .int .u8 0, .int .u8 0, .int .u8 0, .int .u8 0, .int .u8 0, .int .u8 0] : Array Value) = bArr 20 (eF 1) := by
  simp [bArr, eF, List.range, List.range.loop]
theorem e_step (i : Nat) (h : 1 ≤ i) : bArr 20 (fun j => if j = i then 48 else eF i j) = bArr 20 (eF (i + 1)) := by
  refine bArr_congr fun j _ => ?_
  unfold eF
  by_cases h0 : j = 0
  · subst h0; rw [if_neg (by omega), if_pos rfl]; rfl
  · by_cases hj : j = i
    · subst hj; rw [if_pos rfl, if_neg h0, if_pos (by omega)]
    · rw [if_neg hj, if_neg h0, if_neg h0]
      by_cases h1 : j < i
      · rw [if_pos h1, if_pos (by omega)]
      · rw [if_neg h1, if_neg (by omega)]
theorem e_list (n : Nat) : (List.range (n + 1)).map (eF (n + 1)) = 49 :: List.replicate n 48 := by
  apply List.ext_getElem
  · simp
  · intro j h1 h2
    simp at h1
    rcases j with _ | j
    · simp [eF]
    · simp [eF]; omega
theorem e_str (n : Nat) : strOfNums ((List.range (n + 1)).map (eF (n + 1))) = ⟨(Lib.decDigits (10 ^ n)).toArray⟩ := by
  rw [e_list, dec_pow]
  simp [strOfNums]
theorem conv_e (n B : Nat) (hn : n ≤ 19) (W : World) (hc : ∀ j, j < 20 → W.cell? ⟨B, j, none⟩ = some (.int .u8 (eF (n + 1) j))) :
    (convert 26 9 (.slice (some ⟨B, 0, none⟩) (n + 1) 20)).run Try.prog W = .ok (.string ⟨(Lib.decDigits (10 ^ n)).toArray⟩) W := by
  rw [← e_str]
  refine run_convert_bytes_arg _ 26 5 Try.underlying26 Try.underlying5 _ 0 (n + 1) 20 _ (by simp) ?_ 9 Try.underlying9
  intro i hi
  rw [Nat.zero_add, hc i (by omega)]
  simp [hi]
theorem utoa_p10 (n : Nat) (hn : n ≤ 19) (w : World) :
    Calls Try.prog 5 #[.int .u64 (p10 n)] w fun e w' => e = .returned (.string ⟨(Lib.decDigits (10 ^ n)).toArray⟩) ∧ ∃ A B, w' = (w.alloc (.cells A 24)).alloc (.cells B 24) := by
  have h := p10_le n hn
  unfold p10 at h ⊢
  exact utoa_calls (10 ^ n) (by omega) w

set_option maxHeartbeats 800000 in
theorem walk_in (a b : Nat) (h : a + b ≤ 19) (w : World) :
    Calls Try.prog 3 #[.int .i64 a, .int .i64 b] w fun e w' => e = .returned (.bool true) ∧ Grown w w' := by
  have hne := p10_mul a b h
  have ha : (a : Int) ≤ 19 := by omega
  have hb : (b : Int) ≤ 19 := by omega
  go_enter Try.func3, Try.ntmps3
  go_wp2_with fail
  refine (zzpow10_calls _ (by omega) (by omega) _).mono ?_
  rintro e w' ⟨rfl, rfl⟩
  rw [show ((a : Int) + (b : Int)).toNat = a + b from by omega]
  go_wp2_with fail
  refine (zzpow10_calls _ (by omega) (by omega) _).mono ?_
  rintro e w' ⟨rfl, rfl⟩
  go_wp2_with fail
  refine (zzpow10_calls _ (by omega) (by omega) _).mono ?_
  rintro e w' ⟨rfl, rfl⟩
  go_wp2_with fail
  go_loopw [7] (fun it wr => ∃ i : Nat, 1 ≤ i ∧ i ≤ a + b + 1 ∧ it = .int .i64 i ∧ wr = w.alloc (.cells (bArr 20 (eF i)) 24)) (fun it _ => 20 - (intOf it).toNat)
  case atStart => exact ⟨1, by omega, by omega, rfl, by rw [e_start]⟩
  case round =>
    obtain ⟨i, hi1, hi2, rfl, rfl⟩ := hrel
    by_cases hlt : i ≤ a + b
    · have hg : (bArr 20 (eF i))[i]? = some (.int .u8 (eF i i)) := bArr_get (by omega)
      go_wp2
      go_roundw
      case rel => exact ⟨i + 1, by omega, by omega, by go_num, by rw [bArr_set, e_step i hi1]⟩
      case measure => simp [intOf]; omega
    · obtain rfl : i = a + b + 1 := by omega
      have hsl := slice_out w.heap.size (a + b + 1) (by omega)
      have en : ((a + b + 1 : Nat) : Int) = (a : Int) + b + 1 := by omega
      rw [en] at hsl
      have hcv := fun W => conv_e (a + b) w.heap.size h W
      have hc1 : (convert 26 9 (.slice (some ⟨w.heap.size, 0, none⟩) (a + b + 1) 20)).run Try.prog (w.alloc (.cells (bArr 20 (eF (a + b + 1))) 24)).drew = .ok (.string ⟨(Lib.decDigits (10 ^ (a + b))).toArray⟩) (w.alloc (.cells (bArr 20 (eF (a + b + 1))) 24)).drew :=
        hcv _ (fun j hj => by simp [bArr_get hj])
      have hc2 : ∀ A B, (convert 26 9 (.slice (some ⟨w.heap.size, 0, none⟩) (a + b + 1) 20)).run Try.prog (((w.alloc (.cells (bArr 20 (eF (a + b + 1))) 24)).alloc (.cells A 24)).alloc (.cells B 24)).drew = .ok (.string ⟨(Lib.decDigits (10 ^ (a + b))).toArray⟩) (((w.alloc (.cells (bArr 20 (eF (a + b + 1))) 24)).alloc (.cells A 24)).alloc (.cells B 24)).drew := by
        intro A B
        refine hcv _ (fun j hj => ?_)
        show World.cell? (((w.alloc (.cells (bArr 20 (eF (a + b + 1))) 24)).alloc (.cells A 24)).alloc (.cells B 24)) _ = _
        rw [World.cell?_alloc_past _ _ _ (by simp; omega), World.cell?_alloc_past _ _ _ (by simp), World.cell?_alloc_at _ _ _ _ rfl, bArr_get hj]
      clear hcv en
      have hw1 : IntKind.i64.wrap ((a : Int) + b) = (a : Int) + b := IntWalk.i64_in _ (by omega)
      have hw2 : IntKind.i64.wrap ((a : Int) + b + 1) = (a : Int) + b + 1 := IntWalk.i64_in _ (by omega)
      go_wp2
      go_region_with (go_at_call 5; refine (utoa_p10 _ h _).mono ?_; rintro e w' ⟨rfl, A, B, rfl⟩)
      all_goals go_wp2
      all_goals go_ret
      all_goals exact ⟨rfl, by repeat (first | exact Grown.refl _ | apply Grown.drew | apply Grown.alloc)⟩

theorem walk (a0 : Int) (a1 : Int) (w0 : (Lit.int .i64 a0).wf = true) (w1 : (Lit.int .i64 a1).wf = true) (w : World) :
    Calls Try.prog 3 #[.int .i64 a0, .int .i64 a1] w fun e w' => e = .returned (.bool true) ∧ Grown w w' := by
  by_cases h : 0 ≤ a0 ∧ a0 ≤ 19 ∧ 0 ≤ a1 ∧ a1 ≤ 19 ∧ a0 + a1 ≤ 19
  · obtain ⟨a, rfl⟩ := Int.eq_ofNat_of_zero_le h.1
    obtain ⟨b, rfl⟩ := Int.eq_ofNat_of_zero_le h.2.2.1
    exact walk_in a b (by omega) w
  · exact walk_out a0 a1 h w

/-! ### THE ROW's STEP: WRITTEN OUT: LEAVE IT -/
set_option maxRecDepth 100000 in
theorem lifted (os : Os) (started : os.Started) (H : Type) (enc : TypeId × Value → H) :
    ReturnsInHanded {} Try.checked os 3 .any (Rows.fnPow10ProductAndDigitsSpec.pre6 enc Try.prog Try.f3 Rows.fnPow10ProductAndDigitsRow.domain false) (Rows.fnPow10ProductAndDigitsSpec.post enc Try.prog Try.f3 false true false false) := by
  refine returnsInHanded_of_change (C := Try.checked) own started (by kernel_rfl) Try.func3
    (ChangeSpec.witness6 (enc := enc) (C := Try.checked) false ⟨#[], #[.int .i64 0, .int .i64 0], []⟩ 8 (by kernel_rfl) (by kernel_rfl) (by kernel_rfl) (by kernel_rfl)) ?_
  intro W base args ds gs before hval0 hW hcnd _
  have hval : ∀ (j : Nat) t v, Try.f3.params[j]? = some t → args[j]? = some v → Value.okWide Try.prog W .any base t v := hval0
  have hW' := hW
  obtain ⟨p, q, hA0, hV, rfl, hfz, hnd⟩ := hW
  have hA : DataW.TrodAll enc Try.prog W 0 (fun _ => true) true Try.f3.params.toList args.toList ds p := hA0
  rw [Try.params3] at hA hval
  obtain ⟨v0, vs0, d0, ds0, p0, q0, hargs, rfl, rfl, h0, r0⟩ := trodAll_cons hA
  obtain ⟨v1, vs1, d1, ds1, p1, q1, rfl, rfl, rfl, h1, r1⟩ := trodAll_cons r0
  obtain ⟨rfl, rfl, rfl⟩ := trodAll_nil r1
  obtain rfl : args = #[v0, v1] := by cases args; simp_all
  obtain ⟨rfl, rfl⟩ := trodVars_none hV
  obtain ⟨a0, rfl, rfl, rfl, w0⟩ := open_int Try.underlying3 (hval 0 3 v0 rfl rfl) h0
  obtain ⟨a1, rfl, rfl, rfl, w1⟩ := open_int Try.underlying3 (hval 1 3 v1 rfl rfl) h1
  clear hA0 hval0
  simp only [List.append_nil] at hW'
  refine (walk a0 a1 w0 w1 W).mono fun e W' ⟨he, hg⟩ => ?_
  subst he
  exact ⟨_, rfl, post_of_same (pa := []) (pv := []) hW' (fun _ _ _ => (trodAll_cons_mk (shut_bool Try.underlying4 _) trodAll_mk0)) (fun sp _ => (trodAll_cons_mk (shut_int Try.underlying3 w0) (trodAll_cons_mk (shut_int Try.underlying3 w1) trodAll_mk0))) (fun _ _ => rfl) rfl
    (hg.frame _) hg.2.1 (ok_one (by kernel_rfl) rfl (okWide_bool_mk Try.underlying4 _))⟩

theorem over : Rows.fnPow10ProductAndDigitsRow.holds Try.pinned (OpenSpec.ofChange Rows.fnPow10ProductAndDigitsSpec) :=
  OpenClaim.holds_of_wide 3 Try.f3 rfl rfl rfl rfl rfl rfl rfl ⟨rfl, rfl, rfl, rfl, rfl⟩ rfl rfl rfl rfl rfl (by kernel_rfl) Try.func3 (by kernel_rfl)
    (of_decide_eq_true (by kernel_rfl)) (by unfold Func.isWrapper; first | (rw [if_pos (by decide +kernel)]; kernel_rfl) | (rw [if_neg (by decide +kernel)]; exact ⟨rfl, rfl⟩))
    (fun os started H enc _ => lifted os started H enc)

/-- ████ THE STATEMENT ████ -/
theorem proved : Rows.FnPow10ProductAndDigitsSaid :=
  over
#print axioms proved
end Go.Proofs.Qxb6617318a.fnPow10ProductAndDigits
