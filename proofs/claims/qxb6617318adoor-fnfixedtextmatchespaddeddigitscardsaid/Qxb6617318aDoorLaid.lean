import Derived.Test.Qxb6617318aDoorFixed
import Derived.LaidMore
import Derived.MakeChecks
import Derived.Stop.LaidErr
import Derived.Lib.LaidTab
namespace Go.Proofs.Qxb6617318aDoor
open Go.RowKit
set_option linter.unusedVariables false

/-! ### The listed tables: what the walks need of them, and a start that meets the list -/
def laid3 : List (String × DataW Unit) := Rows.fnFixedTextSignSymmetricRow.laid
theorem gTab : Tryd.prog.globalNamed tabName = some 0 := by kernel_rfl
theorem tTab : (Tryd.prog.globals[0]?).map (·.type) = some 39 := by kernel_rfl
theorem of_laid {W : World} (h : laidMetH Tryd.prog laid3 W) : Lib.TabIs Tryd.prog W tabName .u64 Lib.pow10Tab := by
  rw [MakeChecks.laidMetH_plain _ _ _ (by kernel_rfl)] at h
  have h2 : laidMet Tryd.prog [(tabName, Lib.tabData .u64 Lib.pow10Tab)] W := laidMet.tail (laidMet.tail h)
  exact Lib.tabIs_of_head gTab tTab Tryd.underlying39 Tryd.underlying24 (by kernel_rfl) (by kernel_rfl) h2
/-- The heap that the door's own run leaves meets the list. -/
theorem door_met (os : Os) (args : Array Value) : laidMetH Tryd.prog laid3 ((World.doorLaid Tryd.prog 400 os).forCall (fun _ _ => 0) ⟨#[], args, []⟩).memory :=
  laidMetH_of_parts3 (fuel := 8) (laidMet_of_run' 8 (by kernel_rfl) (by kernel_rfl)) (by kernel_rfl) (by kernel_rfl)

/-! ### fixedText whole, and the door ZZfixedText -/
theorem fixedText_calls (n : Int) (h0 : -9223372036854775808 ≤ n) (h1 : n ≤ 9223372036854775807) (p : Nat) (hp : p ≤ 19) (w : World) (htab : Lib.TabIs Tryd.prog w tabName .u64 Lib.pow10Tab) :
    Calls Tryd.prog 8 #[.int .i64 n, .int .i64 p] w fun e w' => e = .returned (.string ⟨(fixed n p).toArray⟩) ∧ Below w.heap.size w w' := by
  by_cases hn : n < 0
  · obtain ⟨u, hu⟩ : ∃ u : Nat, n = -(u : Int) := ⟨n.natAbs, by omega⟩
    have e : fixed n p = 45 :: fixedU u p := by
      have e1 : n.natAbs = u := by omega
      unfold fixed sgn
      rw [if_pos hn, e1]
      rfl
    rw [e, hu]
    exact fixedText_neg u p (by omega) (by omega) hp w htab
  · obtain ⟨u, hu⟩ : ∃ u : Nat, n = (u : Int) := ⟨n.natAbs, by omega⟩
    have e : fixed n p = fixedU u p := by
      have e1 : n.natAbs = u := by omega
      unfold fixed sgn
      rw [if_neg hn, e1]
      rfl
    rw [e, hu]
    exact fixedText_pos u p (by omega) hp w htab

theorem zzfixed_calls (n : Int) (h0 : -9223372036854775808 ≤ n) (h1 : n ≤ 9223372036854775807) (x : Int) (hx0 : 0 ≤ x) (hx1 : x ≤ 19) (w : World) (htab : Lib.TabIs Tryd.prog w tabName .u64 Lib.pow10Tab) :
    Calls Tryd.prog 6 #[.int .i64 n, .int .i64 x] w fun e w' => e = .returned (.string ⟨(fixed n x.toNat).toArray⟩) ∧ Below w.heap.size w w' := by
  obtain ⟨p, rfl⟩ := Int.eq_ofNat_of_zero_le hx0
  rw [Int.toNat_natCast]
  have H := Lib.hid (fixedText_calls n h0 h1 p (by omega) w htab)
  clear htab
  go_enter Tryd.func6, Tryd.ntmps6
  go_wp2_with fail
  refine H.out.mono ?_
  rintro e w' ⟨rfl, hb⟩
  go_wp2
  go_ret
  exact ⟨rfl, hb⟩

/-! ### Two texts, joined and compared -/
theorem toList_join (S R : List UInt8) : ((⟨S.toArray⟩ : ByteArray) ++ ⟨R.toArray⟩).toList = S ++ R := by
  rw [ByteArray.toList_eq, ByteArray.data_append]
  simp
theorem ret_append {S T R : List UInt8} (h : T = S ++ R) : Ending.returned (.bool (T == ((⟨S.toArray⟩ : ByteArray) ++ ⟨R.toArray⟩).toList)) = .returned (.bool true) := by
  rw [toList_join, h]
  simp
end Go.Proofs.Qxb6617318aDoor
