/-
  No cell of these rows narrows 'for every input' (looked for: loops, veiled, ifaces, maps, wideKeys, modest, calm, conditions, laid).
  DERIVED. THE GIVEN ROWS OF THIS SEAT. 2 by the template 'for every input the law returns true; each argument reads behind the call as it read before'; 0 by the template 'total and deterministic' (their statements: Qxb6628571aTotals.lean).
  GIVEN WITH THE SEED: the statements are not yours to turn. If you find one false, say at which input.
  Laid BY PROGRAM, IN A SANDBOX (cutbox-rows.mjs): the forced cells as the released guide's own fill.sh prints them over the translation e3b37a42b9da8e66… (all of the seat's roots in one cut). By AI agents, Wed Nov 11 2026. No macro, syntax, notation, axiom, sorry.
-/
import Derived.Test.Qxb6628571aChecked
import GoSem.Claim
import GoSem.ClaimJoined
import GoSem.ClaimMapViews
import Derived.JoinedTies
import Derived.KernelRfl
namespace Go.Proofs.Qxb6628571a
/- THE CELL 'sum', in the pinned program and in every row, IS THE sha256 OF THE DUMP (.gsa) THAT Qxb6628571aProg.lean LOADS. Nothing in Lean hashes anything: it is a label: what it is worth is what the hold of that sum in a sandbox is worth. -/
noncomputable def Try.pinned : Pinned := { name := "qxb6628571a", sum := "e3b37a42b9da8e6644ffaa7eba6baf1d6ffb1676c64b85b1212bb8187bc421e5", checked := Try.checked }
namespace Rows
def none {H : Type} : Left H := { results := [], args := [] }

/-- 'zzlaws_internal_policy_b1.FnThresholdForMatchesSpec': WHATEVER THE INPUT: true; the input reads as it did. -/
def fnThresholdForMatchesSpecSpec : ChangeSpec := { name := "fnThresholdForMatchesSpec", fn := fun _ => fun
  | [d1, d2, d3, d4, d5, d6, d7] => { results := [.lit (.bool true)], args := [d1, d2, d3, d4, d5, d6, d7] }
  | _ => none }
def fnThresholdForMatchesSpecRow : OpenClaim := { program := "qxb6628571a", sum := "e3b37a42b9da8e6644ffaa7eba6baf1d6ffb1676c64b85b1212bb8187bc421e5", func := "example.com/countersign/countersign/zzlaws_internal_policy_b1.FnThresholdForMatchesSpec", spec := "fnThresholdForMatchesSpec", apart := false }
def FnThresholdForMatchesSpecSaid : Prop := fnThresholdForMatchesSpecRow.holds Try.pinned (OpenSpec.ofChange fnThresholdForMatchesSpecSpec)

/-- ITS FALSE NEIGHBOUR: 'it returns false'. Refute it at one input. -/
def fnThresholdForMatchesSpecWrong : ChangeSpec := { name := "fnThresholdForMatchesSpec", fn := fun _ => fun
  | [d1, d2, d3, d4, d5, d6, d7] => { results := [.lit (.bool false)], args := [d1, d2, d3, d4, d5, d6, d7] }
  | _ => none }
def FnThresholdForMatchesSpecWrongFalsely : Prop := fnThresholdForMatchesSpecRow.holds Try.pinned (OpenSpec.ofChange fnThresholdForMatchesSpecWrong)

/-- 'zzlaws_internal_policy_b1.FnThresholdForAcrossACutOfMembers': WHATEVER THE INPUT: true; the input reads as it did. -/
def fnThresholdForAcrossACutOfMembersSpec : ChangeSpec := { name := "fnThresholdForAcrossACutOfMembers", fn := fun _ => fun
  | [d1, d2, d3, d4, d5, d6, d7, d8] => { results := [.lit (.bool true)], args := [d1, d2, d3, d4, d5, d6, d7, d8] }
  | _ => none }
def fnThresholdForAcrossACutOfMembersRow : OpenClaim := { program := "qxb6628571a", sum := "e3b37a42b9da8e6644ffaa7eba6baf1d6ffb1676c64b85b1212bb8187bc421e5", func := "example.com/countersign/countersign/zzlaws_internal_policy_b1.FnThresholdForAcrossACutOfMembers", spec := "fnThresholdForAcrossACutOfMembers", apart := false }
def FnThresholdForAcrossACutOfMembersSaid : Prop := fnThresholdForAcrossACutOfMembersRow.holds Try.pinned (OpenSpec.ofChange fnThresholdForAcrossACutOfMembersSpec)

/-- ITS FALSE NEIGHBOUR: 'it returns false'. Refute it at one input. -/
def fnThresholdForAcrossACutOfMembersWrong : ChangeSpec := { name := "fnThresholdForAcrossACutOfMembers", fn := fun _ => fun
  | [d1, d2, d3, d4, d5, d6, d7, d8] => { results := [.lit (.bool false)], args := [d1, d2, d3, d4, d5, d6, d7, d8] }
  | _ => none }
def FnThresholdForAcrossACutOfMembersWrongFalsely : Prop := fnThresholdForAcrossACutOfMembersRow.holds Try.pinned (OpenSpec.ofChange fnThresholdForAcrossACutOfMembersWrong)

end Rows
end Go.Proofs.Qxb6628571a
