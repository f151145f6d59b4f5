/-
  No cell of these rows narrows 'for every input' (looked for: loops, veiled, ifaces, maps, wideKeys, modest, calm, conditions, laid).
  DERIVED. THE GIVEN ROWS OF THIS SEAT. 2 by the template 'for every input the law returns true; each argument reads behind the call as it read before'; 0 by the template 'total and deterministic' (their statements: Qxb6615698aFmtTotals.lean).
  GIVEN WITH THE SEED: the statements are not yours to turn. If you find one false, say at which input.
  Laid BY PROGRAM, IN A SANDBOX (cutbox-rows.mjs): the forced cells as the released guide's own fill.sh prints them over the translation c0e95b62792cde80… (all of the seat's roots in one cut). By AI agents, Wed Nov 11 2026. No macro, syntax, notation, axiom, sorry.
-/
import Derived.Test.Qxb6615698aFmtChecked
import GoSem.Claim
import GoSem.ClaimJoined
import GoSem.ClaimMapViews
import Derived.JoinedTies
import Derived.KernelRfl
namespace Go.Proofs.Qxb6615698aFmt
/- THE CELL 'sum', in the pinned program and in every row, IS THE sha256 OF THE DUMP (.gsa) THAT Qxb6615698aFmtProg.lean LOADS. Nothing in Lean hashes anything: it is a label: what it is worth is what the hold of that sum in a sandbox is worth. -/
noncomputable def Tryf.pinned : Pinned := { name := "qxb6615698afmt", sum := "c0e95b62792cde80656430274a8528593fa5afda32fefd2b415565315b26cb20", checked := Tryf.checked }
namespace Rows
def none {H : Type} : Left H := { results := [], args := [] }

/-- 'zzlaws_pkg_policy_b1.FnColumnLabelJoinsPieces': WHATEVER THE INPUT: true; the input reads as it did. -/
def fnColumnLabelJoinsPiecesSpec : ChangeSpec := { name := "fnColumnLabelJoinsPieces", fn := fun _ => fun
  | [d1, d2, d3] => { results := [.lit (.bool true)], args := [d1, d2, d3] }
  | _ => none }
def fnColumnLabelJoinsPiecesRow : OpenClaim := { program := "qxb6615698afmt", sum := "c0e95b62792cde80656430274a8528593fa5afda32fefd2b415565315b26cb20", func := "example.com/fieldveil/fieldveil/zzlaws_pkg_policy_b1.FnColumnLabelJoinsPieces", spec := "fnColumnLabelJoinsPieces", stops := ["fmt.Sprintf"], inPlace := ["fmt.Sprintf"], apart := false }
/-- NO THEOREM (fmt's text is open here; it may be false): for the released tool's asking of the row's closed facts alone. THE STATEMENT IS 'FnColumnLabelJoinsPiecesToldSaid' (Qxb6615698aFmtCards.lean). -/
def FnColumnLabelJoinsPiecesFormAsk : Prop := fnColumnLabelJoinsPiecesRow.holds Tryf.pinned (OpenSpec.ofChange fnColumnLabelJoinsPiecesSpec)

/-- ITS FALSE NEIGHBOUR: 'it returns false'. Refute it at one input. -/
def fnColumnLabelJoinsPiecesWrong : ChangeSpec := { name := "fnColumnLabelJoinsPieces", fn := fun _ => fun
  | [d1, d2, d3] => { results := [.lit (.bool false)], args := [d1, d2, d3] }
  | _ => none }
def FnColumnLabelJoinsPiecesWrongFormAsk : Prop := fnColumnLabelJoinsPiecesRow.holds Tryf.pinned (OpenSpec.ofChange fnColumnLabelJoinsPiecesWrong)

/-- 'zzlaws_pkg_policy_b1.FnColumnLabelNameInjective': WHATEVER THE INPUT: true; the input reads as it did. -/
def fnColumnLabelNameInjectiveSpec : ChangeSpec := { name := "fnColumnLabelNameInjective", fn := fun _ => fun
  | [d1, d2, d3, d4] => { results := [.lit (.bool true)], args := [d1, d2, d3, d4] }
  | _ => none }
def fnColumnLabelNameInjectiveRow : OpenClaim := { program := "qxb6615698afmt", sum := "c0e95b62792cde80656430274a8528593fa5afda32fefd2b415565315b26cb20", func := "example.com/fieldveil/fieldveil/zzlaws_pkg_policy_b1.FnColumnLabelNameInjective", spec := "fnColumnLabelNameInjective", stops := ["fmt.Sprintf"], inPlace := ["fmt.Sprintf"], apart := false }
/-- NO THEOREM (fmt's text is open here; it may be false): for the released tool's asking of the row's closed facts alone. THE STATEMENT IS 'FnColumnLabelNameInjectiveToldSaid' (Qxb6615698aFmtCards.lean). -/
def FnColumnLabelNameInjectiveFormAsk : Prop := fnColumnLabelNameInjectiveRow.holds Tryf.pinned (OpenSpec.ofChange fnColumnLabelNameInjectiveSpec)

/-- ITS FALSE NEIGHBOUR: 'it returns false'. Refute it at one input. -/
def fnColumnLabelNameInjectiveWrong : ChangeSpec := { name := "fnColumnLabelNameInjective", fn := fun _ => fun
  | [d1, d2, d3, d4] => { results := [.lit (.bool false)], args := [d1, d2, d3, d4] }
  | _ => none }
def FnColumnLabelNameInjectiveWrongFormAsk : Prop := fnColumnLabelNameInjectiveRow.holds Tryf.pinned (OpenSpec.ofChange fnColumnLabelNameInjectiveWrong)

end Rows
end Go.Proofs.Qxb6615698aFmt
