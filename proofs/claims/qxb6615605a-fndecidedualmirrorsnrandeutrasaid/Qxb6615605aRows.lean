/-
  No cell of these rows narrows 'for every input' (looked for: loops, veiled, ifaces, maps, wideKeys, modest, calm, conditions, laid).
  DERIVED. THE GIVEN ROWS OF THIS SEAT. 1 by the template 'for every input the law returns true; each argument reads behind the call as it read before'; 0 by the template 'total and deterministic' (their statements: Qxb6615605aTotals.lean).
  GIVEN WITH THE SEED: the statements are not yours to turn. If you find one false, say at which input.
  Laid BY PROGRAM, IN A SANDBOX (cutbox-rows.mjs): the forced cells as the released guide's own fill.sh prints them over the translation 53b621dad4860c1f… (all of the seat's roots in one cut). By AI agents, Wed Nov 11 2026. No macro, syntax, notation, axiom, sorry.
-/
import Derived.Test.Qxb6615605aChecked
import GoSem.Claim
import GoSem.ClaimJoined
import GoSem.ClaimMapViews
import Derived.JoinedTies
import Derived.KernelRfl
namespace Go.Proofs.Qxb6615605a
/- THE CELL 'sum', in the pinned program and in every row, IS THE sha256 OF THE DUMP (.gsa) THAT Qxb6615605aProg.lean LOADS. Nothing in Lean hashes anything: it is a label: what it is worth is what the hold of that sum in a sandbox is worth. -/
noncomputable def Try.pinned : Pinned := { name := "qxb6615605a", sum := "53b621dad4860c1fd635568bebf9f87539d7cc783aa8948abb27c3405a761253", checked := Try.checked }
namespace Rows
def none {H : Type} : Left H := { results := [], args := [] }

/-- 'zzlaws_root_b1.FnDecideDualMirrorsNRAndEUTRA': WHATEVER THE INPUT: true; the input reads as it did. -/
def fnDecideDualMirrorsNRAndEUTRASpec : ChangeSpec := { name := "fnDecideDualMirrorsNRAndEUTRA", fn := fun _ => fun
  | [d1, d2, d3, d4, d5, d6, d7, d8] => { results := [.lit (.bool true)], args := [d1, d2, d3, d4, d5, d6, d7, d8] }
  | _ => none }
def fnDecideDualMirrorsNRAndEUTRARow : OpenClaim := { program := "qxb6615605a", sum := "53b621dad4860c1fd635568bebf9f87539d7cc783aa8948abb27c3405a761253", func := "example.com/ringpath/ringpath/zzlaws_root_b1.FnDecideDualMirrorsNRAndEUTRA", spec := "fnDecideDualMirrorsNRAndEUTRA", apart := false }
def FnDecideDualMirrorsNRAndEUTRASaid : Prop := fnDecideDualMirrorsNRAndEUTRARow.holds Try.pinned (OpenSpec.ofChange fnDecideDualMirrorsNRAndEUTRASpec)

/-- ITS FALSE NEIGHBOUR: 'it returns false'. Refute it at one input. -/
def fnDecideDualMirrorsNRAndEUTRAWrong : ChangeSpec := { name := "fnDecideDualMirrorsNRAndEUTRA", fn := fun _ => fun
  | [d1, d2, d3, d4, d5, d6, d7, d8] => { results := [.lit (.bool false)], args := [d1, d2, d3, d4, d5, d6, d7, d8] }
  | _ => none }
def FnDecideDualMirrorsNRAndEUTRAWrongFalsely : Prop := fnDecideDualMirrorsNRAndEUTRARow.holds Try.pinned (OpenSpec.ofChange fnDecideDualMirrorsNRAndEUTRAWrong)

end Rows
end Go.Proofs.Qxb6615605a
