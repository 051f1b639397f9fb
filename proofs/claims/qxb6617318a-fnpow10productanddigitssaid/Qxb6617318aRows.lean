/-
  No cell of these rows narrows 'for every input' (looked for: loops, veiled, ifaces, maps, wideKeys, modest, calm, conditions, laid).
  DERIVED. THE GIVEN ROWS OF THIS SEAT. 1 by the template 'for every input the law returns true; each argument reads behind the call as it read before'; 0 by the template 'total and deterministic' (their statements: Qxb6617318aTotals.lean).
  GIVEN WITH THE SEED: the statements are not yours to turn. If you find one false, say at which input.
  Laid BY PROGRAM, IN A SANDBOX (cutbox-rows.mjs): the forced cells as the released guide's own fill.sh prints them over the translation cf0ecbc900df9620… (all of the seat's roots in one cut). By AI agents, Wed Nov 11 2026. No macro, syntax, notation, axiom, sorry.
-/
import Derived.Test.Qxb6617318aChecked
import GoSem.Claim
import GoSem.ClaimJoined
import GoSem.ClaimMapViews
import Derived.JoinedTies
import Derived.KernelRfl
namespace Go.Proofs.Qxb6617318a
/- THE CELL 'sum', in the pinned program and in every row, IS THE sha256 OF THE DUMP (.gsa) THAT Qxb6617318aProg.lean LOADS. Nothing in Lean hashes anything: it is a label: what it is worth is what the hold of that sum in a sandbox is worth. -/
noncomputable def Try.pinned : Pinned := { name := "qxb6617318a", sum := "cf0ecbc900df9620251c5cf513d69b37f814b79ec5f8e4e6493c3c634d55f02e", checked := Try.checked }
namespace Rows
def none {H : Type} : Left H := { results := [], args := [] }

/-- 'zzlaws_money_b1.FnPow10ProductAndDigits': WHATEVER THE INPUT: true; the input reads as it did. -/
def fnPow10ProductAndDigitsSpec : ChangeSpec := { name := "fnPow10ProductAndDigits", fn := fun _ => fun
  | [d1, d2] => { results := [.lit (.bool true)], args := [d1, d2] }
  | _ => none }
def fnPow10ProductAndDigitsRow : OpenClaim := { program := "qxb6617318a", sum := "cf0ecbc900df9620251c5cf513d69b37f814b79ec5f8e4e6493c3c634d55f02e", func := "example.com/dassie/dassie/zzlaws_money_b1.FnPow10ProductAndDigits", spec := "fnPow10ProductAndDigits", apart := false }
def FnPow10ProductAndDigitsSaid : Prop := fnPow10ProductAndDigitsRow.holds Try.pinned (OpenSpec.ofChange fnPow10ProductAndDigitsSpec)

/-- ITS FALSE NEIGHBOUR: 'it returns false'. Refute it at one input. -/
def fnPow10ProductAndDigitsWrong : ChangeSpec := { name := "fnPow10ProductAndDigits", fn := fun _ => fun
  | [d1, d2] => { results := [.lit (.bool false)], args := [d1, d2] }
  | _ => none }
def FnPow10ProductAndDigitsWrongFalsely : Prop := fnPow10ProductAndDigitsRow.holds Try.pinned (OpenSpec.ofChange fnPow10ProductAndDigitsWrong)

end Rows
end Go.Proofs.Qxb6617318a
