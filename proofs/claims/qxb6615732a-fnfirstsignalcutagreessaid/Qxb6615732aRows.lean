/-
  No cell of these rows narrows 'for every input' (looked for: loops, veiled, ifaces, maps, wideKeys, modest, calm, conditions, laid).
  DERIVED. THE GIVEN ROWS OF THIS SEAT. 2 by the template 'for every input the law returns true; each argument reads behind the call as it read before'; 0 by the template 'total and deterministic' (their statements: Qxb6615732aTotals.lean).
  GIVEN WITH THE SEED: the statements are not yours to turn. If you find one false, say at which input.
  Laid BY PROGRAM, IN A SANDBOX (cutbox-rows.mjs): the forced cells as the released guide's own fill.sh prints them over the translation 88d057b20258c6e8… (all of the seat's roots in one cut). By AI agents, Wed Nov 11 2026. No macro, syntax, notation, axiom, sorry.
-/
import Derived.Test.Qxb6615732aChecked
import GoSem.Claim
import GoSem.ClaimJoined
import GoSem.ClaimMapViews
import Derived.JoinedTies
import Derived.KernelRfl
namespace Go.Proofs.Qxb6615732a
/- THE CELL 'sum', in the pinned program and in every row, IS THE sha256 OF THE DUMP (.gsa) THAT Qxb6615732aProg.lean LOADS. Nothing in Lean hashes anything: it is a label: what it is worth is what the hold of that sum in a sandbox is worth. -/
noncomputable def Try.pinned : Pinned := { name := "qxb6615732a", sum := "88d057b20258c6e8af967c8ea2e93f4ef2e6c7d085303518c46839c4af0b275f", checked := Try.checked }
namespace Rows
def none {H : Type} : Left H := { results := [], args := [] }

/-- 'zzlaws_health_b1.FnFirstSignalCountsEarlier': WHATEVER THE INPUT: true; the input reads as it did. -/
def fnFirstSignalCountsEarlierSpec : ChangeSpec := { name := "fnFirstSignalCountsEarlier", fn := fun _ => fun
  | [d1, d2, d3, d4, d5] => { results := [.lit (.bool true)], args := [d1, d2, d3, d4, d5] }
  | _ => none }
def fnFirstSignalCountsEarlierRow : OpenClaim := { program := "qxb6615732a", sum := "88d057b20258c6e8af967c8ea2e93f4ef2e6c7d085303518c46839c4af0b275f", func := "example.com/gaugeloft/gaugeloft/zzlaws_health_b1.FnFirstSignalCountsEarlier", spec := "fnFirstSignalCountsEarlier", unfollowed := true, recurses := true, apart := false }
def FnFirstSignalCountsEarlierSaid : Prop := fnFirstSignalCountsEarlierRow.holds Try.pinned (OpenSpec.ofChange fnFirstSignalCountsEarlierSpec)

/-- ITS FALSE NEIGHBOUR: 'it returns false'. Refute it at one input. -/
def fnFirstSignalCountsEarlierWrong : ChangeSpec := { name := "fnFirstSignalCountsEarlier", fn := fun _ => fun
  | [d1, d2, d3, d4, d5] => { results := [.lit (.bool false)], args := [d1, d2, d3, d4, d5] }
  | _ => none }
def FnFirstSignalCountsEarlierWrongFalsely : Prop := fnFirstSignalCountsEarlierRow.holds Try.pinned (OpenSpec.ofChange fnFirstSignalCountsEarlierWrong)

/-- 'zzlaws_health_b1.FnFirstSignalCutAgrees': WHATEVER THE INPUT: true; the input reads as it did. -/
def fnFirstSignalCutAgreesSpec : ChangeSpec := { name := "fnFirstSignalCutAgrees", fn := fun _ => fun
  | [d1, d2, d3, d4, d5] => { results := [.lit (.bool true)], args := [d1, d2, d3, d4, d5] }
  | _ => none }
def fnFirstSignalCutAgreesRow : OpenClaim := { program := "qxb6615732a", sum := "88d057b20258c6e8af967c8ea2e93f4ef2e6c7d085303518c46839c4af0b275f", func := "example.com/gaugeloft/gaugeloft/zzlaws_health_b1.FnFirstSignalCutAgrees", spec := "fnFirstSignalCutAgrees", unfollowed := true, recurses := true, apart := false }
def FnFirstSignalCutAgreesSaid : Prop := fnFirstSignalCutAgreesRow.holds Try.pinned (OpenSpec.ofChange fnFirstSignalCutAgreesSpec)

/-- ITS FALSE NEIGHBOUR: 'it returns false'. Refute it at one input. -/
def fnFirstSignalCutAgreesWrong : ChangeSpec := { name := "fnFirstSignalCutAgrees", fn := fun _ => fun
  | [d1, d2, d3, d4, d5] => { results := [.lit (.bool false)], args := [d1, d2, d3, d4, d5] }
  | _ => none }
def FnFirstSignalCutAgreesWrongFalsely : Prop := fnFirstSignalCutAgreesRow.holds Try.pinned (OpenSpec.ofChange fnFirstSignalCutAgreesWrong)

end Rows
end Go.Proofs.Qxb6615732a
