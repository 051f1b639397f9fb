/-
  DERIVED. GIVEN WITH THE SEED: THE CARDS: each row of Qxb6617318aDoorRows.lean that lists a variable, with what it lists TIED to the program's text (the seventh form; the later family's looks); each row that meets fmt, with fmt's text TOLD by the authors' own Lean function (tested against real Go, not proved from fmt's source: count such statements apart). THE CARD IS WHAT COUNTS. Prove the row's statement (the work); the ties are given (Qxb6617318aDoorTie.lean); close each card by the builder's one call (the guide's Derived/Test/ToyasCard.lean, 'card_holds'). Laid BY PROGRAM, IN A SANDBOX (cutbox-door.mjs). By AI agents, Wed Nov 11 2026. No macro, syntax, notation, axiom, sorry.
-/
import Derived.Test.Qxb6617318aDoorRows
import GoSem.ClaimSeven
namespace Go.Proofs.Qxb6617318aDoor
namespace Rows

/-- THE TIED CARD OF 'zzlaws_money_b1.FnFixedTextMatchesPaddedDigits'. -/
def fnFixedTextMatchesPaddedDigitsCard : Claim7 := { stood := { row := fnFixedTextMatchesPaddedDigitsRow, standIns := [], harness := (true, "6661eb729015ff249a59c94626740c264b05b08c33c7060aa7c1e2f520ded4f2"), looks := false }, kinds := [], alts := [], laidByText := true, laidKinds := [.data, .data, .data], laidTests := true, laidLooks := .later }
def FnFixedTextMatchesPaddedDigitsCardSaid : Prop := Claim7.holds Tryd.pinned (.plain (OpenSpec.ofChange fnFixedTextMatchesPaddedDigitsSpec)) fnFixedTextMatchesPaddedDigitsCard

/-- THE TIED CARD OF 'zzlaws_money_b1.FnFixedTextTenfoldOneMorePlace'. -/
def fnFixedTextTenfoldOneMorePlaceCard : Claim7 := { stood := { row := fnFixedTextTenfoldOneMorePlaceRow, standIns := [], harness := (true, "6661eb729015ff249a59c94626740c264b05b08c33c7060aa7c1e2f520ded4f2"), looks := false }, kinds := [], alts := [], laidByText := true, laidKinds := [.data, .data, .data], laidTests := true, laidLooks := .later }
def FnFixedTextTenfoldOneMorePlaceCardSaid : Prop := Claim7.holds Tryd.pinned (.plain (OpenSpec.ofChange fnFixedTextTenfoldOneMorePlaceSpec)) fnFixedTextTenfoldOneMorePlaceCard

/-- THE TIED CARD OF 'zzlaws_money_b1.FnFixedTextSignSymmetric'. -/
def fnFixedTextSignSymmetricCard : Claim7 := { stood := { row := fnFixedTextSignSymmetricRow, standIns := [], harness := (true, "6661eb729015ff249a59c94626740c264b05b08c33c7060aa7c1e2f520ded4f2"), looks := false }, kinds := [], alts := [], laidByText := true, laidKinds := [.data, .data, .data], laidTests := true, laidLooks := .later }
def FnFixedTextSignSymmetricCardSaid : Prop := Claim7.holds Tryd.pinned (.plain (OpenSpec.ofChange fnFixedTextSignSymmetricSpec)) fnFixedTextSignSymmetricCard
end Rows
end Go.Proofs.Qxb6617318aDoor
