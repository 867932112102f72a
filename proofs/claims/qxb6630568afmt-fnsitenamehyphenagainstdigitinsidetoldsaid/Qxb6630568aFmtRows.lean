/-
  No cell of these rows narrows 'for every input' (looked for: loops, veiled, ifaces, maps, wideKeys, modest, calm, conditions, laid).
  DERIVED. THE GIVEN ROWS OF THIS SEAT. 2 by the template 'for every input the law returns true; each argument reads behind the call as it read before'; 0 by the template 'total and deterministic' (their statements: Qxb6630568aFmtTotals.lean).
  GIVEN WITH THE SEED: the statements are not yours to turn. If you find one false, say at which input.
  Laid BY PROGRAM, IN A SANDBOX (cutbox-rows.mjs): the forced cells as the released guide's own fill.sh prints them over the translation 3d42be97d17927a7… (all of the seat's roots in one cut). By AI agents, Wed Nov 11 2026. No macro, syntax, notation, axiom, sorry.
-/
import Derived.Test.Qxb6630568aFmtChecked
import GoSem.Claim
import GoSem.ClaimJoined
import GoSem.ClaimMapViews
import Derived.JoinedTies
import Derived.KernelRfl
namespace Go.Proofs.Qxb6630568aFmt
/- THE CELL 'sum', in the pinned program and in every row, IS THE sha256 OF THE DUMP (.gsa) THAT Qxb6630568aFmtProg.lean LOADS. Nothing in Lean hashes anything: it is a label: what it is worth is what the hold of that sum in a sandbox is worth. -/
noncomputable def Tryf.pinned : Pinned := { name := "qxb6630568afmt", sum := "3d42be97d17927a7e357289c21a7d19e5ee90d9c839d195232b6e18ec7b1f35e", checked := Tryf.checked }
namespace Rows
def none {H : Type} : Left H := { results := [], args := [] }

/-- 'zzlaws_root_b1.FnSiteNameCutAtAnyPlace': WHATEVER THE INPUT: true; the input reads as it did. -/
def fnSiteNameCutAtAnyPlaceSpec : ChangeSpec := { name := "fnSiteNameCutAtAnyPlace", fn := fun _ => fun
  | [d1, d2] => { results := [.lit (.bool true)], args := [d1, d2] }
  | _ => none }
def fnSiteNameCutAtAnyPlaceRow : OpenClaim := { program := "qxb6630568afmt", sum := "3d42be97d17927a7e357289c21a7d19e5ee90d9c839d195232b6e18ec7b1f35e", func := "example.com/pactum/pactum/zzlaws_root_b1.FnSiteNameCutAtAnyPlace", spec := "fnSiteNameCutAtAnyPlace", stops := ["fmt.Sprintf", "fmt.errorf"], inPlace := ["fmt.Sprintf", "fmt.errorf"], apart := false }
/-- NO THEOREM (fmt's text is open here; it may be false): for the released tool's asking of the row's closed facts alone. THE STATEMENT IS 'FnSiteNameCutAtAnyPlaceToldSaid' (Qxb6630568aFmtCards.lean). -/
def FnSiteNameCutAtAnyPlaceFormAsk : Prop := fnSiteNameCutAtAnyPlaceRow.holds Tryf.pinned (OpenSpec.ofChange fnSiteNameCutAtAnyPlaceSpec)

/-- ITS FALSE NEIGHBOUR: 'it returns false'. Refute it at one input. -/
def fnSiteNameCutAtAnyPlaceWrong : ChangeSpec := { name := "fnSiteNameCutAtAnyPlace", fn := fun _ => fun
  | [d1, d2] => { results := [.lit (.bool false)], args := [d1, d2] }
  | _ => none }
def FnSiteNameCutAtAnyPlaceWrongFormAsk : Prop := fnSiteNameCutAtAnyPlaceRow.holds Tryf.pinned (OpenSpec.ofChange fnSiteNameCutAtAnyPlaceWrong)

/-- 'zzlaws_root_b1.FnSiteNameHyphenAgainstDigitInside': WHATEVER THE INPUT: true; the input reads as it did. -/
def fnSiteNameHyphenAgainstDigitInsideSpec : ChangeSpec := { name := "fnSiteNameHyphenAgainstDigitInside", fn := fun _ => fun
  | [d1, d2] => { results := [.lit (.bool true)], args := [d1, d2] }
  | _ => none }
def fnSiteNameHyphenAgainstDigitInsideRow : OpenClaim := { program := "qxb6630568afmt", sum := "3d42be97d17927a7e357289c21a7d19e5ee90d9c839d195232b6e18ec7b1f35e", func := "example.com/pactum/pactum/zzlaws_root_b1.FnSiteNameHyphenAgainstDigitInside", spec := "fnSiteNameHyphenAgainstDigitInside", stops := ["fmt.Sprintf", "fmt.errorf"], inPlace := ["fmt.Sprintf", "fmt.errorf"], apart := false }
/-- NO THEOREM (fmt's text is open here; it may be false): for the released tool's asking of the row's closed facts alone. THE STATEMENT IS 'FnSiteNameHyphenAgainstDigitInsideToldSaid' (Qxb6630568aFmtCards.lean). -/
def FnSiteNameHyphenAgainstDigitInsideFormAsk : Prop := fnSiteNameHyphenAgainstDigitInsideRow.holds Tryf.pinned (OpenSpec.ofChange fnSiteNameHyphenAgainstDigitInsideSpec)

/-- ITS FALSE NEIGHBOUR: 'it returns false'. Refute it at one input. -/
def fnSiteNameHyphenAgainstDigitInsideWrong : ChangeSpec := { name := "fnSiteNameHyphenAgainstDigitInside", fn := fun _ => fun
  | [d1, d2] => { results := [.lit (.bool false)], args := [d1, d2] }
  | _ => none }
def FnSiteNameHyphenAgainstDigitInsideWrongFormAsk : Prop := fnSiteNameHyphenAgainstDigitInsideRow.holds Tryf.pinned (OpenSpec.ofChange fnSiteNameHyphenAgainstDigitInsideWrong)

end Rows
end Go.Proofs.Qxb6630568aFmt
