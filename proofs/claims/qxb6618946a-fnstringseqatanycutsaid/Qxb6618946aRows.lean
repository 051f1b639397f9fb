/-
  No cell of these rows narrows 'for every input' (looked for: loops, veiled, ifaces, maps, wideKeys, modest, calm, conditions, laid).
  DERIVED. THE GIVEN ROWS OF THIS SEAT. 3 by the template 'for every input the law returns true; each argument reads behind the call as it read before'; 0 by the template 'total and deterministic' (their statements: Qxb6618946aTotals.lean).
  GIVEN WITH THE SEED: the statements are not yours to turn. If you find one false, say at which input.
  Laid BY PROGRAM, IN A SANDBOX (cutbox-rows.mjs): the forced cells as the released guide's own fill.sh prints them over the translation b79306d2b95d8885… (all of the seat's roots in one cut). By AI agents, Wed Nov 11 2026. No macro, syntax, notation, axiom, sorry.
-/
import Derived.Test.Qxb6618946aChecked
import GoSem.Claim
import GoSem.ClaimJoined
import GoSem.ClaimMapViews
import Derived.JoinedTies
import Derived.KernelRfl
namespace Go.Proofs.Qxb6618946a
/- THE CELL 'sum', in the pinned program and in every row, IS THE sha256 OF THE DUMP (.gsa) THAT Qxb6618946aProg.lean LOADS. Nothing in Lean hashes anything: it is a label: what it is worth is what the hold of that sum in a sandbox is worth. -/
noncomputable def Try.pinned : Pinned := { name := "qxb6618946a", sum := "b79306d2b95d8885e4c242722bbbbfc41dbd2642914e4c0965796a1015407cb9", checked := Try.checked }
namespace Rows
def none {H : Type} : Left H := { results := [], args := [] }

/-- 'zzlaws_wire_b1.FnRawBehindItsLengthIsBuffer': WHATEVER THE INPUT: true; the input reads as it did. -/
def fnRawBehindItsLengthIsBufferSpec : ChangeSpec := { name := "fnRawBehindItsLengthIsBuffer", fn := fun _ => fun
  | [d1, d2] => { results := [.lit (.bool true)], args := [d1, d2] }
  | _ => none }
def fnRawBehindItsLengthIsBufferRow : OpenClaim := { program := "qxb6618946a", sum := "b79306d2b95d8885e4c242722bbbbfc41dbd2642914e4c0965796a1015407cb9", func := "example.com/ordo/ordo/zzlaws_wire_b1.FnRawBehindItsLengthIsBuffer", spec := "fnRawBehindItsLengthIsBuffer", named := ["encoding/binary.BigEndian"], apart := false }
def FnRawBehindItsLengthIsBufferSaid : Prop := fnRawBehindItsLengthIsBufferRow.holds Try.pinned (OpenSpec.ofChange fnRawBehindItsLengthIsBufferSpec)

/-- ITS FALSE NEIGHBOUR: 'it returns false'. Refute it at one input. -/
def fnRawBehindItsLengthIsBufferWrong : ChangeSpec := { name := "fnRawBehindItsLengthIsBuffer", fn := fun _ => fun
  | [d1, d2] => { results := [.lit (.bool false)], args := [d1, d2] }
  | _ => none }
def FnRawBehindItsLengthIsBufferWrongFalsely : Prop := fnRawBehindItsLengthIsBufferRow.holds Try.pinned (OpenSpec.ofChange fnRawBehindItsLengthIsBufferWrong)

/-- 'zzlaws_wire_b1.FnStringSeqAtAnyCut': WHATEVER THE INPUT: true; the input reads as it did. -/
def fnStringSeqAtAnyCutSpec : ChangeSpec := { name := "fnStringSeqAtAnyCut", fn := fun _ => fun
  | [d1, d2, d3, d4] => { results := [.lit (.bool true)], args := [d1, d2, d3, d4] }
  | _ => none }
def fnStringSeqAtAnyCutRow : OpenClaim := { program := "qxb6618946a", sum := "b79306d2b95d8885e4c242722bbbbfc41dbd2642914e4c0965796a1015407cb9", func := "example.com/ordo/ordo/zzlaws_wire_b1.FnStringSeqAtAnyCut", spec := "fnStringSeqAtAnyCut", unfollowed := true, recurses := true, named := ["encoding/binary.BigEndian"], apart := false }
def FnStringSeqAtAnyCutSaid : Prop := fnStringSeqAtAnyCutRow.holds Try.pinned (OpenSpec.ofChange fnStringSeqAtAnyCutSpec)

/-- ITS FALSE NEIGHBOUR: 'it returns false'. Refute it at one input. -/
def fnStringSeqAtAnyCutWrong : ChangeSpec := { name := "fnStringSeqAtAnyCut", fn := fun _ => fun
  | [d1, d2, d3, d4] => { results := [.lit (.bool false)], args := [d1, d2, d3, d4] }
  | _ => none }
def FnStringSeqAtAnyCutWrongFalsely : Prop := fnStringSeqAtAnyCutRow.holds Try.pinned (OpenSpec.ofChange fnStringSeqAtAnyCutWrong)

/-- 'zzlaws_wire_b1.FnStringSeqIsAVectorOfBuffers': WHATEVER THE INPUT: true; the input reads as it did. -/
def fnStringSeqIsAVectorOfBuffersSpec : ChangeSpec := { name := "fnStringSeqIsAVectorOfBuffers", fn := fun _ => fun
  | [d1, d2, d3] => { results := [.lit (.bool true)], args := [d1, d2, d3] }
  | _ => none }
def fnStringSeqIsAVectorOfBuffersRow : OpenClaim := { program := "qxb6618946a", sum := "b79306d2b95d8885e4c242722bbbbfc41dbd2642914e4c0965796a1015407cb9", func := "example.com/ordo/ordo/zzlaws_wire_b1.FnStringSeqIsAVectorOfBuffers", spec := "fnStringSeqIsAVectorOfBuffers", unfollowed := true, recurses := true, named := ["encoding/binary.BigEndian"], apart := false }
def FnStringSeqIsAVectorOfBuffersSaid : Prop := fnStringSeqIsAVectorOfBuffersRow.holds Try.pinned (OpenSpec.ofChange fnStringSeqIsAVectorOfBuffersSpec)

/-- ITS FALSE NEIGHBOUR: 'it returns false'. Refute it at one input. -/
def fnStringSeqIsAVectorOfBuffersWrong : ChangeSpec := { name := "fnStringSeqIsAVectorOfBuffers", fn := fun _ => fun
  | [d1, d2, d3] => { results := [.lit (.bool false)], args := [d1, d2, d3] }
  | _ => none }
def FnStringSeqIsAVectorOfBuffersWrongFalsely : Prop := fnStringSeqIsAVectorOfBuffersRow.holds Try.pinned (OpenSpec.ofChange fnStringSeqIsAVectorOfBuffersWrong)

end Rows
end Go.Proofs.Qxb6618946a
