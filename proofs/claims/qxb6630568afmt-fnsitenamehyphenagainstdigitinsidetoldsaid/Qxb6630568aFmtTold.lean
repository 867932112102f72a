/-
  SEAT b6630568aF: fmt's TEXTS, TOLD: not empty where the program asks for one (what the walks lean on). What both told rows share.
-/
import Derived.Test.Qxb6630568aFmtHyphen
import Derived.ProofKit
import Derived.Stop.JoinedAt
import Derived.Stop.Texts
import Derived.Stop.JoinedTold
import Derived.Stop.FmtQuoteTie
import Derived.Stop.FmtTextKit
import Derived.Stop.FmtRuneSmall
import Derived.SizedLaws
namespace Go.Proofs.Qxb6630568aFmt
open Go.ChangeShapes Go.WideShapes Go.ChangeAt Go.RowKit Go.Kit
open Go.Extern.Stop Go.Stop Go.Extern

theorem Tryf.own : ownKnob Tryf.prog.godebug = none := by kernel_rfl

def holdsA : List UInt8 := [104, 111, 108, 100, 115, 32]
def holdsB : List UInt8 := holdsL.drop 8
def longA : List UInt8 := [105, 115, 32]
def longB : List UInt8 := longL.drop 5

theorem holds_parse : (FmtText.parse holdsL).map FmtText.glue = some [.lit holdsA, .verb {} 113, .lit holdsB] := by rfl
theorem long_parse : (FmtText.parse longL).map FmtText.glue = some [.lit longA, .verb {} 100, .lit longB] := by rfl

theorem mod64 (r : Int) (h0 : 0 ≤ r) (h1 : r ≤ 1114111) : (r % 18446744073709551616).toNat ≤ 1114111 := by omega

theorem holds_text (r : Int) (h0 : 0 ≤ r) (h1 : r ≤ 1114111) : FmtText.text "fmt.Sprintf" (askH r) = some (holdsA ++ FmtText.quoteRune false (r % 18446744073709551616).toNat ++ holdsB) := by
  have hi := FmtText.operand_int_at (sh := shape21) (k := .i32) rfl rfl r (wf_rune r h0 h1)
  rw [askH, FmtText.text_sprintf_glued holds_parse (FmtText.operands_cons hi FmtText.operands_nil)]
  simp [FmtText.render, FmtText.printArg_q_int _ _ _ _ (mod64 r h0 h1)]

theorem long_text (n : Int) (hw : (Lit.int .i64 n).wf = true) : FmtText.text "fmt.Sprintf" (askI n) = some (longA ++ Lib.itoa n ++ longB) := by
  have hi := FmtText.operand_int_at (sh := shape3) (k := .i64) rfl rfl n hw
  rw [askI, FmtText.text_sprintf_glued long_parse (FmtText.operands_cons hi FmtText.operands_nil)]
  simp [FmtText.render, FmtText.printArg_d _ _ hw]

theorem tells_told (F : Interp) : Tells F.told where
  rune := fun r h0 h1 => by
    have hl := quoteRune_len (r % 18446744073709551616).toNat
    have h := told_string F (holds_text r h0 h1) (by simp [holdsA, holdsB, holdsL]; omega)
    rw [Lib.toList_data, textOf_list, h]
    rfl
  long := fun n hw => by
    have hl := FmtText.itoa_length_le hw
    have h := told_string F (long_text n hw) (by simp [longA, longB, longL]; omega)
    rw [Lib.toList_data, textOf_list, h]
    rfl

theorem Tryf.laidOut : laidOutB Tryf.pinned.checked.prog = true := by kernel_rfl
theorem Tryf.stops : Tryf.pinned.checked.prog.stops = ["fmt.Sprintf", "fmt.errorf"] := by kernel_rfl
theorem Tryf.stopKnobs : Tryf.pinned.checked.prog.stopKnobs = [] := by kernel_rfl
theorem Tryf.quiet (os : Os) : Stop.quiet Tryf.pinned.checked.prog os := by
  intro k hk
  rw [Tryf.stopKnobs] at hk
  cases hk

end Go.Proofs.Qxb6630568aFmt
