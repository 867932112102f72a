/-
  No cell of these rows narrows 'for every input' (looked for: loops, veiled, ifaces, maps, wideKeys, modest, calm, conditions, laid).
  DERIVED. THE GIVEN ROWS OF THIS SEAT. 2 by the template 'for every input the law returns true; each argument reads behind the call as it read before'; 0 by the template 'total and deterministic' (their statements: Qxb6630529aTotals.lean).
  GIVEN WITH THE SEED: the statements are not yours to turn. If you find one false, say at which input.
  Laid BY PROGRAM, IN A SANDBOX (cutbox-rows.mjs): the forced cells as the released guide's own fill.sh prints them over the translation 87f8cb98405a15d7… (all of the seat's roots in one cut). By AI agents, Wed Nov 11 2026. No macro, syntax, notation, axiom, sorry.
-/
import Derived.Test.Qxb6630529aChecked
import GoSem.Claim
import GoSem.ClaimJoined
import GoSem.ClaimMapViews
import Derived.JoinedTies
import Derived.KernelRfl
namespace Go.Proofs.Qxb6630529a
/- THE CELL 'sum', in the pinned program and in every row, IS THE sha256 OF THE DUMP (.gsa) THAT Qxb6630529aProg.lean LOADS. Nothing in Lean hashes anything: it is a label: what it is worth is what the hold of that sum in a sandbox is worth. -/
noncomputable def Try.pinned : Pinned := { name := "qxb6630529a", sum := "87f8cb98405a15d78d28e0d0f144c215be50a747f105bf9e174df1525aaea171", checked := Try.checked }
namespace Rows
def none {H : Type} : Left H := { results := [], args := [] }

/-- 'zzlaws_root_b1.FnHighestIsFirstArgmax': WHATEVER THE INPUT: true; the input reads as it did. -/
def fnHighestIsFirstArgmaxSpec : ChangeSpec := { name := "fnHighestIsFirstArgmax", fn := fun _ => fun
  | [d1, d2] => { results := [.lit (.bool true)], args := [d1, d2] }
  | _ => none }
def fnHighestIsFirstArgmaxRow : OpenClaim := { program := "qxb6630529a", sum := "87f8cb98405a15d78d28e0d0f144c215be50a747f105bf9e174df1525aaea171", func := "example.com/tryst/tryst/zzlaws_root_b1.FnHighestIsFirstArgmax", spec := "fnHighestIsFirstArgmax", inPlace := ["math/bits.Sub64"], apart := false }
def FnHighestIsFirstArgmaxSaid : Prop := fnHighestIsFirstArgmaxRow.holds Try.pinned (OpenSpec.ofChange fnHighestIsFirstArgmaxSpec)

/-- ITS FALSE NEIGHBOUR: 'it returns false'. Refute it at one input. -/
def fnHighestIsFirstArgmaxWrong : ChangeSpec := { name := "fnHighestIsFirstArgmax", fn := fun _ => fun
  | [d1, d2] => { results := [.lit (.bool false)], args := [d1, d2] }
  | _ => none }
def FnHighestIsFirstArgmaxWrongFalsely : Prop := fnHighestIsFirstArgmaxRow.holds Try.pinned (OpenSpec.ofChange fnHighestIsFirstArgmaxWrong)

/-- 'zzlaws_root_b1.FnHighestSplitsAtAnyCut': WHATEVER THE INPUT: true; the input reads as it did. -/
def fnHighestSplitsAtAnyCutSpec : ChangeSpec := { name := "fnHighestSplitsAtAnyCut", fn := fun _ => fun
  | [d1, d2, d3] => { results := [.lit (.bool true)], args := [d1, d2, d3] }
  | _ => none }
def fnHighestSplitsAtAnyCutRow : OpenClaim := { program := "qxb6630529a", sum := "87f8cb98405a15d78d28e0d0f144c215be50a747f105bf9e174df1525aaea171", func := "example.com/tryst/tryst/zzlaws_root_b1.FnHighestSplitsAtAnyCut", spec := "fnHighestSplitsAtAnyCut", inPlace := ["math/bits.Sub64"], apart := false }
def FnHighestSplitsAtAnyCutSaid : Prop := fnHighestSplitsAtAnyCutRow.holds Try.pinned (OpenSpec.ofChange fnHighestSplitsAtAnyCutSpec)

/-- ITS FALSE NEIGHBOUR: 'it returns false'. Refute it at one input. -/
def fnHighestSplitsAtAnyCutWrong : ChangeSpec := { name := "fnHighestSplitsAtAnyCut", fn := fun _ => fun
  | [d1, d2, d3] => { results := [.lit (.bool false)], args := [d1, d2, d3] }
  | _ => none }
def FnHighestSplitsAtAnyCutWrongFalsely : Prop := fnHighestSplitsAtAnyCutRow.holds Try.pinned (OpenSpec.ofChange fnHighestSplitsAtAnyCutWrong)

end Rows
end Go.Proofs.Qxb6630529a
