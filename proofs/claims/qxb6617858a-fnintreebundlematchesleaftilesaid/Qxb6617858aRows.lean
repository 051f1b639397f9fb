/-
  No cell of these rows narrows 'for every input' (looked for: loops, veiled, ifaces, maps, wideKeys, modest, calm, conditions, laid).
  DERIVED. THE GIVEN ROWS OF THIS SEAT. 3 by the template 'for every input the law returns true; each argument reads behind the call as it read before'; 0 by the template 'total and deterministic' (their statements: Qxb6617858aTotals.lean).
  GIVEN WITH THE SEED: the statements are not yours to turn. If you find one false, say at which input.
  Laid BY PROGRAM, IN A SANDBOX (cutbox-rows.mjs): the forced cells as the released guide's own fill.sh prints them over the translation 38ba2c502c96605f… (all of the seat's roots in one cut). By AI agents, Wed Nov 11 2026. No macro, syntax, notation, axiom, sorry.
-/
import Derived.Test.Qxb6617858aChecked
import GoSem.Claim
import GoSem.ClaimJoined
import GoSem.ClaimMapViews
import Derived.JoinedTies
import Derived.KernelRfl
namespace Go.Proofs.Qxb6617858a
/- THE CELL 'sum', in the pinned program and in every row, IS THE sha256 OF THE DUMP (.gsa) THAT Qxb6617858aProg.lean LOADS. Nothing in Lean hashes anything: it is a label: what it is worth is what the hold of that sum in a sandbox is worth. -/
noncomputable def Try.pinned : Pinned := { name := "qxb6617858a", sum := "38ba2c502c96605f57160bf434c11e238f022b172aa20c008a58438afd09bde8", checked := Try.checked }
namespace Rows
def none {H : Type} : Left H := { results := [], args := [] }

/-- 'zzlaws_pkg_tile_b1.FnInTreeUpperHashesFullLowerTiles': WHATEVER THE INPUT: true; the input reads as it did. -/
def fnInTreeUpperHashesFullLowerTilesSpec : ChangeSpec := { name := "fnInTreeUpperHashesFullLowerTiles", fn := fun _ => fun
  | [d1, d2, d3, d4] => { results := [.lit (.bool true)], args := [d1, d2, d3, d4] }
  | _ => none }
def fnInTreeUpperHashesFullLowerTilesRow : OpenClaim := { program := "qxb6617858a", sum := "38ba2c502c96605f57160bf434c11e238f022b172aa20c008a58438afd09bde8", func := "example.com/attestree/attestree/zzlaws_pkg_tile_b1.FnInTreeUpperHashesFullLowerTiles", spec := "fnInTreeUpperHashesFullLowerTiles", apart := false }
def FnInTreeUpperHashesFullLowerTilesSaid : Prop := fnInTreeUpperHashesFullLowerTilesRow.holds Try.pinned (OpenSpec.ofChange fnInTreeUpperHashesFullLowerTilesSpec)

/-- ITS FALSE NEIGHBOUR: 'it returns false'. Refute it at one input. -/
def fnInTreeUpperHashesFullLowerTilesWrong : ChangeSpec := { name := "fnInTreeUpperHashesFullLowerTiles", fn := fun _ => fun
  | [d1, d2, d3, d4] => { results := [.lit (.bool false)], args := [d1, d2, d3, d4] }
  | _ => none }
def FnInTreeUpperHashesFullLowerTilesWrongFalsely : Prop := fnInTreeUpperHashesFullLowerTilesRow.holds Try.pinned (OpenSpec.ofChange fnInTreeUpperHashesFullLowerTilesWrong)

/-- 'zzlaws_pkg_tile_b1.FnInTreeGrowsWithTree': WHATEVER THE INPUT: true; the input reads as it did. -/
def fnInTreeGrowsWithTreeSpec : ChangeSpec := { name := "fnInTreeGrowsWithTree", fn := fun _ => fun
  | [d1, d2, d3, d4] => { results := [.lit (.bool true)], args := [d1, d2, d3, d4] }
  | _ => none }
def fnInTreeGrowsWithTreeRow : OpenClaim := { program := "qxb6617858a", sum := "38ba2c502c96605f57160bf434c11e238f022b172aa20c008a58438afd09bde8", func := "example.com/attestree/attestree/zzlaws_pkg_tile_b1.FnInTreeGrowsWithTree", spec := "fnInTreeGrowsWithTree", apart := false }
def FnInTreeGrowsWithTreeSaid : Prop := fnInTreeGrowsWithTreeRow.holds Try.pinned (OpenSpec.ofChange fnInTreeGrowsWithTreeSpec)

/-- ITS FALSE NEIGHBOUR: 'it returns false'. Refute it at one input. -/
def fnInTreeGrowsWithTreeWrong : ChangeSpec := { name := "fnInTreeGrowsWithTree", fn := fun _ => fun
  | [d1, d2, d3, d4] => { results := [.lit (.bool false)], args := [d1, d2, d3, d4] }
  | _ => none }
def FnInTreeGrowsWithTreeWrongFalsely : Prop := fnInTreeGrowsWithTreeRow.holds Try.pinned (OpenSpec.ofChange fnInTreeGrowsWithTreeWrong)

/-- 'zzlaws_pkg_tile_b1.FnInTreeBundleMatchesLeafTile': WHATEVER THE INPUT: true; the input reads as it did. -/
def fnInTreeBundleMatchesLeafTileSpec : ChangeSpec := { name := "fnInTreeBundleMatchesLeafTile", fn := fun _ => fun
  | [d1, d2] => { results := [.lit (.bool true)], args := [d1, d2] }
  | _ => none }
def fnInTreeBundleMatchesLeafTileRow : OpenClaim := { program := "qxb6617858a", sum := "38ba2c502c96605f57160bf434c11e238f022b172aa20c008a58438afd09bde8", func := "example.com/attestree/attestree/zzlaws_pkg_tile_b1.FnInTreeBundleMatchesLeafTile", spec := "fnInTreeBundleMatchesLeafTile", apart := false }
def FnInTreeBundleMatchesLeafTileSaid : Prop := fnInTreeBundleMatchesLeafTileRow.holds Try.pinned (OpenSpec.ofChange fnInTreeBundleMatchesLeafTileSpec)

/-- ITS FALSE NEIGHBOUR: 'it returns false'. Refute it at one input. -/
def fnInTreeBundleMatchesLeafTileWrong : ChangeSpec := { name := "fnInTreeBundleMatchesLeafTile", fn := fun _ => fun
  | [d1, d2] => { results := [.lit (.bool false)], args := [d1, d2] }
  | _ => none }
def FnInTreeBundleMatchesLeafTileWrongFalsely : Prop := fnInTreeBundleMatchesLeafTileRow.holds Try.pinned (OpenSpec.ofChange fnInTreeBundleMatchesLeafTileWrong)

end Rows
end Go.Proofs.Qxb6617858a
