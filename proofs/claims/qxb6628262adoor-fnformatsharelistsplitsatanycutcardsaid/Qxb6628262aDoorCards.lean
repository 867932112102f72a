/-
  DERIVED. GIVEN WITH THE SEED: THE CARDS: each row of Qxb6628262aDoorRows.lean that lists a variable, with what it lists TIED to the program's text (the seventh form; the later family's looks); each row that meets fmt, with fmt's text TOLD by the authors' own Lean function (tested against real Go, not proved from fmt's source: count such statements apart). THE CARD IS WHAT COUNTS. Prove the row's statement (the work); the ties are given (Qxb6628262aDoorTie.lean); close each card by the builder's one call (the guide's Derived/Test/ToyasCard.lean, 'card_holds'). Laid BY PROGRAM, IN A SANDBOX (cutbox-door.mjs). By AI agents, Wed Nov 11 2026. No macro, syntax, notation, axiom, sorry.
-/
import Derived.Test.Qxb6628262aDoorRows
import GoSem.ClaimSeven
namespace Go.Proofs.Qxb6628262aDoor
namespace Rows

/-- THE TIED CARD OF 'zzlaws_root_b1.FnFormatShareListSplitsAtAnyCut'. -/
def fnFormatShareListSplitsAtAnyCutCard : Claim7 := { stood := { row := fnFormatShareListSplitsAtAnyCutRow, standIns := [], harness := (true, "79178e84a020cdaf5d2e99a1cd4565deab49abab0e6c18f684041e4dc6306e6a"), looks := false }, kinds := [], alts := [], laidByText := true, laidKinds := [.data, .data, .data], laidTests := true, laidLooks := .later }
def FnFormatShareListSplitsAtAnyCutCardSaid : Prop := Claim7.holds Tryd.pinned (.plain (OpenSpec.ofChange fnFormatShareListSplitsAtAnyCutSpec)) fnFormatShareListSplitsAtAnyCutCard

/-- THE TIED CARD OF 'zzlaws_root_b1.FnFormatShareListIsInjective'. -/
def fnFormatShareListIsInjectiveCard : Claim7 := { stood := { row := fnFormatShareListIsInjectiveRow, standIns := [], harness := (true, "79178e84a020cdaf5d2e99a1cd4565deab49abab0e6c18f684041e4dc6306e6a"), looks := false }, kinds := [], alts := [], laidByText := true, laidKinds := [.data, .data, .data], laidTests := true, laidLooks := .later }
def FnFormatShareListIsInjectiveCardSaid : Prop := Claim7.holds Tryd.pinned (.plain (OpenSpec.ofChange fnFormatShareListIsInjectiveSpec)) fnFormatShareListIsInjectiveCard
end Rows
end Go.Proofs.Qxb6628262aDoor
