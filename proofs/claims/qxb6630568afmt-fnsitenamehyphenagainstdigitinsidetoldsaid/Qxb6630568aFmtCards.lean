/-
  DERIVED. GIVEN WITH THE SEED: THE CARDS: each row of Qxb6630568aFmtRows.lean that lists a variable, with what it lists TIED to the program's text (the seventh form; the later family's looks); each row that meets fmt, with fmt's text TOLD by the authors' own Lean function (tested against real Go, not proved from fmt's source: count such statements apart). THE CARD IS WHAT COUNTS. Prove the row's statement (the work); the ties are given (Qxb6630568aFmtTie.lean); close each card by the builder's one call (the guide's Derived/Test/ToyasCard.lean, 'card_holds'). Laid BY PROGRAM, IN A SANDBOX (cutbox-door.mjs). By AI agents, Wed Nov 11 2026. No macro, syntax, notation, axiom, sorry.
-/
import Derived.Test.Qxb6630568aFmtRows
import GoSem.ClaimSeven
namespace Go.Proofs.Qxb6630568aFmt
namespace Rows

/-- THE TOLD CARD OF 'zzlaws_root_b1.FnSiteNameCutAtAnyPlace'. -/
def fnSiteNameCutAtAnyPlaceCard : Claim7 := { stood := { row := fnSiteNameCutAtAnyPlaceRow, standIns := [], harness := (true, "7f1725a3104b5d575139bb28e841f40a30dfbcb4c34153d667a9bca544569ec6"), looks := false }, told := true, goes := false }
def FnSiteNameCutAtAnyPlaceToldSaid : Prop := Claim7.holds Tryf.pinned (.plain (OpenSpec.ofChange fnSiteNameCutAtAnyPlaceSpec)) fnSiteNameCutAtAnyPlaceCard
/-- ITS FALSE NEIGHBOUR. Refute it at one input. -/
def FnSiteNameCutAtAnyPlaceToldWrongFalsely : Prop := Claim7.holds Tryf.pinned (.plain (OpenSpec.ofChange fnSiteNameCutAtAnyPlaceWrong)) fnSiteNameCutAtAnyPlaceCard

/-- THE TOLD CARD OF 'zzlaws_root_b1.FnSiteNameHyphenAgainstDigitInside'. -/
def fnSiteNameHyphenAgainstDigitInsideCard : Claim7 := { stood := { row := fnSiteNameHyphenAgainstDigitInsideRow, standIns := [], harness := (true, "7f1725a3104b5d575139bb28e841f40a30dfbcb4c34153d667a9bca544569ec6"), looks := false }, told := true, goes := false }
def FnSiteNameHyphenAgainstDigitInsideToldSaid : Prop := Claim7.holds Tryf.pinned (.plain (OpenSpec.ofChange fnSiteNameHyphenAgainstDigitInsideSpec)) fnSiteNameHyphenAgainstDigitInsideCard
/-- ITS FALSE NEIGHBOUR. Refute it at one input. -/
def FnSiteNameHyphenAgainstDigitInsideToldWrongFalsely : Prop := Claim7.holds Tryf.pinned (.plain (OpenSpec.ofChange fnSiteNameHyphenAgainstDigitInsideWrong)) fnSiteNameHyphenAgainstDigitInsideCard
end Rows
end Go.Proofs.Qxb6630568aFmt
