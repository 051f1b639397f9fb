import Derived.Test.Qxb6617318aDoorLaid
import Derived.Test.Qxb6617318aDoorTie
import Derived.Test.Qxb6617318aDoorCards
import Derived.Test.Qxb6617318aDoorPlainLaws
import Derived.WalkKit
import Derived.ProofKit
import Derived.OpenShut
import Derived.ShutString
import Derived.LaidMore
import Derived.Stop.Joined
import Derived.SevenTiedAt
namespace Go.Proofs.Qxb6617318aDoor.fnFixedTextSignSymmetric
open Go.ChangeShapes Go.WideShapes Go.ChangeAt Go.WideMaps Go.WideElems Go.RowKit
set_option linter.unusedVariables false

theorem own : ownKnob Tryd.prog.godebug = none := by kernel_rfl

/-! ### THE WALK -/
theorem walk_out (a0 a1 : Int) (h : ¬ (0 ≤ a1 ∧ a1 ≤ 19)) (w : World) :
    Calls Tryd.prog 5 #[.int .i64 a0, .int .i64 a1] w fun e w' => e = .returned (.bool true) ∧ Below w.heap.size w w' := by
  by_cases c1 : a1 < 0
  · go_enter Tryd.func5, Tryd.ntmps5
    go_wp2
    go_ret
    exact ⟨rfl, Below.refl _ _⟩
  have c2 : 19 < a1 := by omega
  clear h
  go_enter Tryd.func5, Tryd.ntmps5
  go_wp2
  go_ret
  exact ⟨rfl, Below.refl _ _⟩
theorem walk_least (a1 : Int) (h0 : 0 ≤ a1) (h1 : a1 ≤ 19) (w : World) :
    Calls Tryd.prog 5 #[.int .i64 (-9223372036854775808), .int .i64 a1] w fun e w' => e = .returned (.bool true) ∧ Below w.heap.size w w' := by
  go_enter Tryd.func5, Tryd.ntmps5
  go_wp2
  go_ret
  exact ⟨rfl, Below.refl _ _⟩

set_option maxHeartbeats 800000 in
theorem walk_in (a0 a1 : Int) (h0 : 0 ≤ a1) (h1 : a1 ≤ 19) (h2 : a0 ≤ 9223372036854775807) (h3 : -9223372036854775807 ≤ a0) (w : World) (htab : Lib.TabIs Tryd.prog w tabName .u64 Lib.pow10Tab) :
    Calls Tryd.prog 5 #[.int .i64 a0, .int .i64 a1] w fun e w' => e = .returned (.bool true) ∧ Below w.heap.size w w' := by
  have HT := Lib.hid htab
  clear htab
  obtain ⟨a, ha, hcase⟩ : ∃ a : Int, (0 ≤ a ∧ a ≤ 9223372036854775807) ∧ ((a = a0) ∨ (a0 = -a ∧ 0 < a)) := by
    by_cases h : 0 ≤ a0
    · exact ⟨a0, ⟨h, h2⟩, .inl rfl⟩
    · exact ⟨-a0, by omega, .inr ⟨by omega, by omega⟩⟩
  have hl : (a0 == -9223372036854775808) = false := beq_eq_false_iff_ne.2 (by omega)
  rcases hcase with rfl | ⟨rfl, hpos⟩
  all_goals
    go_enter Tryd.func5, Tryd.ntmps5
    go_wp2_with fail
    refine (zzfixed_calls a (by omega) (by omega) a1 (by omega) (by omega) _ HT.out).mono ?_
    rintro e W1 ⟨rfl, hb1⟩
    go_wp2_with fail
    refine (zzfixed_calls (-a) (by omega) (by omega) a1 (by omega) (by omega) _ ((Lib.tabBelow_of_tabIs HT.out) W1 hb1)).mono ?_
    rintro e W2 ⟨rfl, hb2⟩
    replace hb2 := hb1.trans (hb2.mono hb1.size)
    clear hb1
    have hlen := fixed_length a a1.toNat (by omega) (by omega) (by omega)
    obtain ⟨c, r, hS, hc0, hc1⟩ := fixed_head (n := a) (by omega) a1.toNat
    rw [hS] at hlen
    simp only [List.length_cons] at hlen
    have g0 : (48 : Int) ≤ (((⟨(c :: r).toArray⟩ : ByteArray)[0]'(by simp [ByteArray.size])).toNat : Int) := by show (48 : Int) ≤ (c.toNat : Int); omega
    have g1 : (((⟨(c :: r).toArray⟩ : ByteArray)[0]'(by simp [ByteArray.size])).toNat : Int) ≤ 57 := by show (c.toNat : Int) ≤ 57; omega
    have g2 : ((r.length : Int) + 1 == 0) = false := beq_eq_false_iff_ne.2 (by omega)
    by_cases hz : a = 0
    · have hz' : (a == 0) = true := beq_iff_eq.2 hz
      have e : fixed (-a) a1.toNat = fixed a a1.toNat := by rw [hz]; rfl
      rw [e, hS]
      clear hS hz e hc0 hc1
      go_wp2
      go_ret
      exact ⟨rfl, hb2⟩
    · have hz' : (a == 0) = false := beq_eq_false_iff_ne.2 hz
      have HN := Lib.hid (fixed_neg (n := a) (by omega) a1.toNat)
      rw [hS] at HN
      rw [hS]
      generalize fixed (-a) a1.toNat = N at *
      clear hS hz hc0 hc1
      go_wp2
      go_ret
      exact ⟨ret_append (S := [45]) HN.out, hb2⟩

theorem walk (a0 a1 : Int) (h0 : -9223372036854775808 ≤ a0) (h1 : a0 ≤ 9223372036854775807) (w : World) (htab : Lib.TabIs Tryd.prog w tabName .u64 Lib.pow10Tab) :
    Calls Tryd.prog 5 #[.int .i64 a0, .int .i64 a1] w fun e w' => e = .returned (.bool true) ∧ Below w.heap.size w w' := by
  by_cases h : 0 ≤ a1 ∧ a1 ≤ 19
  · by_cases hm : a0 = -9223372036854775808
    · subst hm
      exact walk_least a1 h.1 h.2 w
    · exact walk_in a0 a1 h.1 h.2 h1 (by omega) w htab
  · exact walk_out a0 a1 h w

/-! ### THE ROW -/
set_option maxRecDepth 100000 in
theorem lifted (os : Os) (started : os.Started) (H : Type) (enc : TypeId × Value → H) :
    ReturnsInHanded {} Tryd.checked os 5 .any (fun w args => (Rows.fnFixedTextSignSymmetricSpec.pre enc Tryd.prog Tryd.f5 [] false w args ∧ laidMetH Tryd.prog laid3 w) ∧ sizedMet enc Tryd.prog Tryd.f5 (OpenSpec.ofChange Rows.fnFixedTextSignSymmetricSpec) false w args)
      (Rows.fnFixedTextSignSymmetricSpec.post enc Tryd.prog Tryd.f5 false true false false) := by
  refine returnsInHanded_of_change_and (C := Tryd.checked) (X := fun w _ => laidMetH Tryd.prog laid3 w) (fun _ _ _ hh h => h.of_heap hh) own started (by kernel_rfl) Tryd.func5
    (ChangeSpec.witness_shaped (enc := enc) (C := Tryd.checked) (os := os) (X := fun w _ => laidMetH Tryd.prog laid3 w) false (World.doorLaid Tryd.prog 400 os) #[.int .i64 0, .int .i64 0] 8 rfl (World.shaped_of_RefB (by kernel_rfl) (by kernel_rfl)) (by kernel_rfl) (by kernel_rfl) (by kernel_rfl) (door_met os _)) ?_
  intro W base args ds gs before hval0 hW _ _ hL _
  have hval : ∀ (j : Nat) t v, Tryd.f5.params[j]? = some t → args[j]? = some v → Value.okWide Tryd.prog W .any base t v := hval0
  have hW' := hW
  obtain ⟨p, q, hA0, hV, rfl, hfz, hnd⟩ := hW
  have hA : DataW.TrodAll enc Tryd.prog W 0 (fun _ => true) true Tryd.f5.params.toList args.toList ds p := hA0
  rw [Tryd.params5] at hA hval
  obtain ⟨v0, v1, d0, d1, p0, p1, rfl, rfl, rfl, h0, h1⟩ := trodAll_two hA
  obtain ⟨rfl, rfl⟩ := trodVars_none hV
  obtain ⟨a0, rfl, rfl, rfl, w0⟩ := open_int Tryd.underlying2 (hval 0 2 v0 rfl rfl) h0
  obtain ⟨a1, rfl, rfl, rfl, w1⟩ := open_int Tryd.underlying3 (hval 1 3 v1 rfl rfl) h1
  clear hA0 hval0
  simp only [List.append_nil] at hW'
  have b0 := bounds_i64 w0
  refine (walk a0 a1 b0.1 b0.2 W (of_laid hL)).mono fun e W' ⟨he, hb⟩ => ?_
  subst he
  exact ⟨_, rfl, _, _, _, [], [], [], hW', trodAll_mk1 (shut_bool Tryd.underlying4 _), trodAll_mk2 (shut_int Tryd.underlying2 w0) (shut_int Tryd.underlying3 w1), rfl, hb.frame _, fun h => by cases h⟩

theorem row_holds : Rows.FnFixedTextSignSymmetricSaid :=
  OpenClaim.holds_of_wide 5 Tryd.f5 rfl rfl rfl rfl rfl rfl rfl ⟨rfl, rfl, rfl, rfl, rfl⟩ rfl rfl rfl rfl rfl (by kernel_rfl) Tryd.func5 (by kernel_rfl)
    (of_decide_eq_true (by kernel_rfl)) (by unfold Func.isWrapper; first | (rw [if_pos (by decide +kernel)]; kernel_rfl) | (rw [if_neg (by decide +kernel)]; exact ⟨rfl, rfl⟩))
    (fun os started H enc _ => lifted os started H enc)

/-! ### THE TIED CARD -/
theorem proved : Rows.FnFixedTextSignSymmetricCardSaid :=
  Claim7.holds_tied_plain_at .later [] [.data, .data, .data] true Rows.fnFixedTextSignSymmetricCard.stood.harness false
    row_holds (fun _ h => by cases h) (by kernel_rfl) (fun _ h => by cases h) fnFixedTextSignSymmetric_row_tie rfl ⟨rfl, rfl⟩ (by kernel_rfl) rfl
    (fun f fn hf hfn => by
      obtain rfl : f = 5 := Option.some.inj ((show Tryd.prog.funcNamed Rows.fnFixedTextSignSymmetricRow.func = some 5 by kernel_rfl).symm.trans hf) |>.symm
      obtain rfl : fn = Tryd.f5 := (Option.some.inj (Tryd.func5.symm.trans hfn)).symm
      exact ⟨by kernel_rfl, fun j t ht => by
        rw [Tryd.params5] at ht
        have hm : t ∈ [2, 3] := by simpa using Array.mem_of_getElem? ht
        have hall : ([2, 3].all fun u => !Tryd.prog.wantsStandIn u) = true := by kernel_rfl
        exact (show Tryd.prog.wantsStandIn t = false by simpa using List.all_eq_true.1 hall t hm)⟩)
    (by kernel_rfl)
#print axioms proved
end Go.Proofs.Qxb6617318aDoor.fnFixedTextSignSymmetric
