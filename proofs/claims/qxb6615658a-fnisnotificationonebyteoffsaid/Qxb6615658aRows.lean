/-
  No cell of these rows narrows 'for every input' (looked for: loops, veiled, ifaces, maps, wideKeys, modest, calm, conditions, laid).
  DERIVED. THE GIVEN ROWS OF THIS SEAT. 5 by the template 'for every input the law returns true; each argument reads behind the call as it read before'; 0 by the template 'total and deterministic' (their statements: Qxb6615658aTotals.lean).
  GIVEN WITH THE SEED: the statements are not yours to turn. If you find one false, say at which input.
  Laid BY PROGRAM, IN A SANDBOX (cutbox-rows.mjs): the forced cells as the released guide's own fill.sh prints them over the translation a5d4a839155122b9… (all of the seat's roots in one cut). By AI agents, Wed Nov 11 2026. No macro, syntax, notation, axiom, sorry.
-/
import Derived.Test.Qxb6615658aChecked
import GoSem.Claim
import GoSem.ClaimJoined
import GoSem.ClaimMapViews
import Derived.JoinedTies
import Derived.KernelRfl
namespace Go.Proofs.Qxb6615658a
/- THE CELL 'sum', in the pinned program and in every row, IS THE sha256 OF THE DUMP (.gsa) THAT Qxb6615658aProg.lean LOADS. Nothing in Lean hashes anything: it is a label: what it is worth is what the hold of that sum in a sandbox is worth. -/
noncomputable def Try.pinned : Pinned := { name := "qxb6615658a", sum := "a5d4a839155122b95a38b3292f9f8d53d387b66ed0c3cbcce92d468928ce0919", checked := Try.checked }
namespace Rows
def none {H : Type} : Left H := { results := [], args := [] }

/-- 'zzlaws_internal_mcp_b1.FnIsNotificationKeptUnderExtension': WHATEVER THE INPUT: true; the input reads as it did. -/
def fnIsNotificationKeptUnderExtensionSpec : ChangeSpec := { name := "fnIsNotificationKeptUnderExtension", fn := fun _ => fun
  | [d1, d2] => { results := [.lit (.bool true)], args := [d1, d2] }
  | _ => none }
def fnIsNotificationKeptUnderExtensionRow : OpenClaim := { program := "qxb6615658a", sum := "a5d4a839155122b95a38b3292f9f8d53d387b66ed0c3cbcce92d468928ce0919", func := "example.com/portcullis/portcullis/zzlaws_internal_mcp_b1.FnIsNotificationKeptUnderExtension", spec := "fnIsNotificationKeptUnderExtension", apart := false }
def FnIsNotificationKeptUnderExtensionSaid : Prop := fnIsNotificationKeptUnderExtensionRow.holds Try.pinned (OpenSpec.ofChange fnIsNotificationKeptUnderExtensionSpec)

/-- ITS FALSE NEIGHBOUR: 'it returns false'. Refute it at one input. -/
def fnIsNotificationKeptUnderExtensionWrong : ChangeSpec := { name := "fnIsNotificationKeptUnderExtension", fn := fun _ => fun
  | [d1, d2] => { results := [.lit (.bool false)], args := [d1, d2] }
  | _ => none }
def FnIsNotificationKeptUnderExtensionWrongFalsely : Prop := fnIsNotificationKeptUnderExtensionRow.holds Try.pinned (OpenSpec.ofChange fnIsNotificationKeptUnderExtensionWrong)

/-- 'zzlaws_internal_mcp_b1.FnIsNotificationOneByteOff': WHATEVER THE INPUT: true; the input reads as it did. -/
def fnIsNotificationOneByteOffSpec : ChangeSpec := { name := "fnIsNotificationOneByteOff", fn := fun _ => fun
  | [d1, d2, d3] => { results := [.lit (.bool true)], args := [d1, d2, d3] }
  | _ => none }
def fnIsNotificationOneByteOffRow : OpenClaim := { program := "qxb6615658a", sum := "a5d4a839155122b95a38b3292f9f8d53d387b66ed0c3cbcce92d468928ce0919", func := "example.com/portcullis/portcullis/zzlaws_internal_mcp_b1.FnIsNotificationOneByteOff", spec := "fnIsNotificationOneByteOff", apart := false }
def FnIsNotificationOneByteOffSaid : Prop := fnIsNotificationOneByteOffRow.holds Try.pinned (OpenSpec.ofChange fnIsNotificationOneByteOffSpec)

/-- ITS FALSE NEIGHBOUR: 'it returns false'. Refute it at one input. -/
def fnIsNotificationOneByteOffWrong : ChangeSpec := { name := "fnIsNotificationOneByteOff", fn := fun _ => fun
  | [d1, d2, d3] => { results := [.lit (.bool false)], args := [d1, d2, d3] }
  | _ => none }
def FnIsNotificationOneByteOffWrongFalsely : Prop := fnIsNotificationOneByteOffRow.holds Try.pinned (OpenSpec.ofChange fnIsNotificationOneByteOffWrong)

/-- 'zzlaws_internal_mcp_b1.FnIsStringIsNumberFirstByteCensus': WHATEVER THE INPUT: true; the input reads as it did. -/
def fnIsStringIsNumberFirstByteCensusSpec : ChangeSpec := { name := "fnIsStringIsNumberFirstByteCensus", fn := fun _ => fun
  | [d] => { results := [.lit (.bool true)], args := [d] }
  | _ => none }
def fnIsStringIsNumberFirstByteCensusRow : OpenClaim := { program := "qxb6615658a", sum := "a5d4a839155122b95a38b3292f9f8d53d387b66ed0c3cbcce92d468928ce0919", func := "example.com/portcullis/portcullis/zzlaws_internal_mcp_b1.FnIsStringIsNumberFirstByteCensus", spec := "fnIsStringIsNumberFirstByteCensus", apart := false }
def FnIsStringIsNumberFirstByteCensusSaid : Prop := fnIsStringIsNumberFirstByteCensusRow.holds Try.pinned (OpenSpec.ofChange fnIsStringIsNumberFirstByteCensusSpec)

/-- ITS FALSE NEIGHBOUR: 'it returns false'. Refute it at one input. -/
def fnIsStringIsNumberFirstByteCensusWrong : ChangeSpec := { name := "fnIsStringIsNumberFirstByteCensus", fn := fun _ => fun
  | [d] => { results := [.lit (.bool false)], args := [d] }
  | _ => none }
def FnIsStringIsNumberFirstByteCensusWrongFalsely : Prop := fnIsStringIsNumberFirstByteCensusRow.holds Try.pinned (OpenSpec.ofChange fnIsStringIsNumberFirstByteCensusWrong)

/-- 'zzlaws_internal_mcp_b1.FnIsStringJoinAtAnyCut': WHATEVER THE INPUT: true; the input reads as it did. -/
def fnIsStringJoinAtAnyCutSpec : ChangeSpec := { name := "fnIsStringJoinAtAnyCut", fn := fun _ => fun
  | [d1, d2] => { results := [.lit (.bool true)], args := [d1, d2] }
  | _ => none }
def fnIsStringJoinAtAnyCutRow : OpenClaim := { program := "qxb6615658a", sum := "a5d4a839155122b95a38b3292f9f8d53d387b66ed0c3cbcce92d468928ce0919", func := "example.com/portcullis/portcullis/zzlaws_internal_mcp_b1.FnIsStringJoinAtAnyCut", spec := "fnIsStringJoinAtAnyCut", apart := false }
def FnIsStringJoinAtAnyCutSaid : Prop := fnIsStringJoinAtAnyCutRow.holds Try.pinned (OpenSpec.ofChange fnIsStringJoinAtAnyCutSpec)

/-- ITS FALSE NEIGHBOUR: 'it returns false'. Refute it at one input. -/
def fnIsStringJoinAtAnyCutWrong : ChangeSpec := { name := "fnIsStringJoinAtAnyCut", fn := fun _ => fun
  | [d1, d2] => { results := [.lit (.bool false)], args := [d1, d2] }
  | _ => none }
def FnIsStringJoinAtAnyCutWrongFalsely : Prop := fnIsStringJoinAtAnyCutRow.holds Try.pinned (OpenSpec.ofChange fnIsStringJoinAtAnyCutWrong)

/-- 'zzlaws_internal_mcp_b1.FnIsNumberJoinAtAnyCut': WHATEVER THE INPUT: true; the input reads as it did. -/
def fnIsNumberJoinAtAnyCutSpec : ChangeSpec := { name := "fnIsNumberJoinAtAnyCut", fn := fun _ => fun
  | [d1, d2] => { results := [.lit (.bool true)], args := [d1, d2] }
  | _ => none }
def fnIsNumberJoinAtAnyCutRow : OpenClaim := { program := "qxb6615658a", sum := "a5d4a839155122b95a38b3292f9f8d53d387b66ed0c3cbcce92d468928ce0919", func := "example.com/portcullis/portcullis/zzlaws_internal_mcp_b1.FnIsNumberJoinAtAnyCut", spec := "fnIsNumberJoinAtAnyCut", apart := false }
def FnIsNumberJoinAtAnyCutSaid : Prop := fnIsNumberJoinAtAnyCutRow.holds Try.pinned (OpenSpec.ofChange fnIsNumberJoinAtAnyCutSpec)

/-- ITS FALSE NEIGHBOUR: 'it returns false'. Refute it at one input. -/
def fnIsNumberJoinAtAnyCutWrong : ChangeSpec := { name := "fnIsNumberJoinAtAnyCut", fn := fun _ => fun
  | [d1, d2] => { results := [.lit (.bool false)], args := [d1, d2] }
  | _ => none }
def FnIsNumberJoinAtAnyCutWrongFalsely : Prop := fnIsNumberJoinAtAnyCutRow.holds Try.pinned (OpenSpec.ofChange fnIsNumberJoinAtAnyCutWrong)

end Rows
end Go.Proofs.Qxb6615658a
