/-
  SEAT b6628262aD: FROM THE ROW's CONDITION AND ITS ARGUMENTS TO THE WALKS: the table that strconv.Itoa reads; a slice of numbers that came in.
-/
import Derived.Test.Qxb6628262aDoorInj
import Derived.Test.Qxb6628262aDoorShelf
import Derived.ProofKit
import Derived.LaidMore
import Derived.OpenShut
import Derived.Stop.Joined
import Derived.Below
import Derived.ChangeOld
namespace Go.Proofs.Qxb6628262aDoor
open Go.ChangeShapes Go.WideShapes Go.ChangeAt Go.RowKit

theorem own : ownKnob Tryd.prog.godebug = none := by kernel_rfl
theorem laidOut : laidOutB Tryd.prog = true := by kernel_rfl
theorem gPow : Tryd.prog.globalNamed tabName = some 0 := by kernel_rfl
theorem tPow : (Tryd.prog.globals[0]?).map (·.type) = some 52 := by kernel_rfl
theorem cPow : Tryd.prog.cellsOf 52 = 20 := by kernel_rfl
theorem c29 : Tryd.prog.cellsOf 29 = 1 := by kernel_rfl
theorem powData : (Rows.laid_internal_strconv_uint64pow10 : DataW Unit) = Lib.tabData .u64 Lib.pow10Tab := by kernel_rfl

/-- What the two rows list. -/
def laid3 : List (String × DataW Unit) := Rows.fnFormatShareListSplitsAtAnyCutRow.laid

/-- WHAT THE CONDITION GIVES THE WALKS. -/
theorem tab_of_laid {W : World} (h : laidMetH Tryd.prog laid3 W) : Tab W := by
  rw [MakeChecks.laidMetH_plain _ _ _ (by kernel_rfl)] at h
  obtain ⟨ps, ⟨g0, t0, cs0, f0, p0, q0, hg0, ht0, hv0, hd0, ⟨g1, t1, cs1, f1, p1, q1, hg1, ht1, hv1, hd1, ⟨g2, t2, cs2, f2, p2, q2, hg2, ht2, hv2, hd2, _, _⟩, _⟩, _⟩, _, _⟩ := h
  have hg2' : Tryd.prog.globalNamed tabName = some g2 := hg2
  obtain rfl := Option.some.inj (gPow.symm.trans hg2')
  obtain rfl := Option.some.inj (tPow.symm.trans ht2)
  rw [powData] at hd2
  unfold Tab Lib.TabIs
  have hv2' : W.var? Tryd.prog tabName = some cs2 := hv2
  rw [hv2', ← Lib.cells_of_tab Tryd.underlying52 Tryd.underlying29 c29 cPow hd2]

/-- The door's own heap meets the condition. -/
theorem door_met (os : Os) (args : Array Value) : laidMetH Tryd.prog laid3 ((World.doorLaid Tryd.prog 24 os).forCall (fun _ _ => 0) ⟨#[], args, []⟩).memory :=
  laidMetH_of_parts3 (fuel := 8) (laidMet_of_run' 8 (by kernel_rfl) (by kernel_rfl)) (by kernel_rfl) (by kernel_rfl)

/-- A slice of numbers that came in, as the walks want it. -/
theorem slice_in {H : Type} {enc : TypeId × Value → H} {W : World} {base : Nat} {sp : Nat → Bool} {held : Bool} {a : Option Addr} {len cap : Nat} {x : DataW H × List MemPlace} {fuel : Nat}
    (hf : DataW.trod enc Tryd.prog W base sp held fuel 22 (Value.slice a len cap).cells.toList = some x) :
    ∃ zs : List Int, len = zs.length ∧ SliceIs W a zs ∧ InRange zs ∧ len ≤ 9223372036854775807 := by
  rcases open_ints Tryd.underlying22 Tryd.underlying3 (by kernel_rfl) hf with ⟨hcs, _⟩ | ⟨y, l, c, zs, hcs, _, hl, hm, hz, _, hcell, hwz⟩
  · simp [Value.cells] at hcs
    obtain ⟨rfl, rfl, rfl⟩ := hcs
    exact ⟨[], rfl, .inl rfl, (by intro z hz; cases hz), by omega⟩
  · simp [Value.cells] at hcs
    obtain ⟨rfl, rfl, rfl⟩ := hcs
    unfold maxLen at hm
    by_cases h0 : len = 0
    · subst h0
      exact ⟨[], rfl, .inl rfl, (by intro z hz; cases hz), by omega⟩
    · have hlz : len ≤ zs.length := by rw [hz]; split <;> omega
      obtain ⟨b, off, rfl, hc⟩ := ints_at hcell (by omega)
      have ht : (zs.take len).length = len := by rw [List.length_take]; omega
      refine ⟨zs.take len, ht.symm, .inr ⟨b, off, rfl, ?_, fun j hj => ?_⟩, fun z hz' => bounds_i64 (hwz z (List.mem_of_mem_take hz')), by omega⟩
      · exact World.block_lt_of_cell? _ _ (hc 0 (by omega))
      · rw [hc j (by omega), List.getD_eq_getElem?_getD, List.getD_eq_getElem?_getD, List.getElem?_take, if_pos (by omega)]

end Go.Proofs.Qxb6628262aDoor
