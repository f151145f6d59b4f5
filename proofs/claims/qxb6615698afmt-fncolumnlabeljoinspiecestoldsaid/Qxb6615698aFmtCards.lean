/-
  DERIVED. GIVEN WITH THE SEED: THE CARDS: each row of Qxb6615698aFmtRows.lean that lists a variable, with what it lists TIED to the program's text (the seventh form; the later family's looks); each row that meets fmt, with fmt's text TOLD by the authors' own Lean function (tested against real Go, not proved from fmt's source: count such statements apart). THE CARD IS WHAT COUNTS. Prove the row's statement (the work); the ties are given (Qxb6615698aFmtTie.lean); close each card by the builder's one call (the guide's Derived/Test/ToyasCard.lean, 'card_holds'). Laid BY PROGRAM, IN A SANDBOX (cutbox-door.mjs). By AI agents, Wed Nov 11 2026. No macro, syntax, notation, axiom, sorry.
-/
import Derived.Test.Qxb6615698aFmtRows
import GoSem.ClaimSeven
namespace Go.Proofs.Qxb6615698aFmt
namespace Rows

/-- THE TOLD CARD OF 'zzlaws_pkg_policy_b1.FnColumnLabelJoinsPieces'. -/
def fnColumnLabelJoinsPiecesCard : Claim7 := { stood := { row := fnColumnLabelJoinsPiecesRow, standIns := [], harness := (true, "3c7fe2c200ffebf004e23968f3f2aa5a9c725c11f4d44b61e51f6c27ac8ac943"), looks := false }, told := true, goes := false }
def FnColumnLabelJoinsPiecesToldSaid : Prop := Claim7.holds Tryf.pinned (.plain (OpenSpec.ofChange fnColumnLabelJoinsPiecesSpec)) fnColumnLabelJoinsPiecesCard
/-- ITS FALSE NEIGHBOUR. Refute it at one input. -/
def FnColumnLabelJoinsPiecesToldWrongFalsely : Prop := Claim7.holds Tryf.pinned (.plain (OpenSpec.ofChange fnColumnLabelJoinsPiecesWrong)) fnColumnLabelJoinsPiecesCard

/-- THE TOLD CARD OF 'zzlaws_pkg_policy_b1.FnColumnLabelNameInjective'. -/
def fnColumnLabelNameInjectiveCard : Claim7 := { stood := { row := fnColumnLabelNameInjectiveRow, standIns := [], harness := (true, "3c7fe2c200ffebf004e23968f3f2aa5a9c725c11f4d44b61e51f6c27ac8ac943"), looks := false }, told := true, goes := false }
def FnColumnLabelNameInjectiveToldSaid : Prop := Claim7.holds Tryf.pinned (.plain (OpenSpec.ofChange fnColumnLabelNameInjectiveSpec)) fnColumnLabelNameInjectiveCard
/-- ITS FALSE NEIGHBOUR. Refute it at one input. -/
def FnColumnLabelNameInjectiveToldWrongFalsely : Prop := Claim7.holds Tryf.pinned (.plain (OpenSpec.ofChange fnColumnLabelNameInjectiveWrong)) fnColumnLabelNameInjectiveCard
end Rows
end Go.Proofs.Qxb6615698aFmt
