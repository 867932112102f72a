/-
  SEAT b6628571a: THE ARGUMENTS OPENED: a slice of members, of strings, of numbers that came in, as the walks want them.
-/
import Derived.Test.Qxb6628571aSpec
import Derived.ProofKit
import Derived.OpenShut
import Derived.ShutString
import Derived.Below
import Derived.ChangeOld
import Derived.Deep.Strs
namespace Go.Proofs.Qxb6628571a
open Go.ChangeShapes Go.WideShapes Go.ChangeAt Go.RowKit
open Go.ChangeMaps (open_string shut_string)

theorem own : ownKnob Try.prog.godebug = none := by kernel_rfl
theorem laidOut : laidOutB Try.prog = true := by kernel_rfl
theorem c38 : Try.prog.cellsOf 38 = 3 := by kernel_rfl
theorem c9 : Try.prog.cellsOf 9 = 1 := by kernel_rfl
theorem c2 : Try.prog.cellsOf 2 = 1 := by kernel_rfl

section
variable {H : Type} {enc : TypeId × Value → H} {W : World} {base : Nat} {sp : Nat → Bool} {held : Bool} {a : Option Addr} {len cap fuel : Nat} {x : DataW H × List MemPlace}

theorem plain_addr {y : Addr} {v : Value} (h : W.cell? (y.add 0) = some v) : ∃ b off, y = ⟨b, off, none⟩ := by
  obtain ⟨b, off, spot⟩ := y
  have hspot : spot = none := by simpa [Addr.add] using World.cell?_spot h
  exact ⟨b, off, by rw [hspot]⟩

theorem strs_in (hf : DataW.trod enc Try.prog W base sp held fuel 23 (Value.slice a len cap).cells.toList = some x) :
    ∃ K : Nat → ByteArray, StrsAt W a len K ∧ (∀ j, (K j).size ≤ maxLen) ∧ (a = none → len = 0) ∧ len ≤ 9223372036854775807 := by
  rcases Deep.open_strs Try.underlying23 Try.underlying9 c9 hf with ⟨hcs, _⟩ | ⟨y, l, c, m, Sx, hcs, _, hl, hm, hmm, _, hx⟩
  · simp [Value.cells] at hcs
    obtain ⟨rfl, rfl, rfl⟩ := hcs
    exact ⟨fun _ => ⟨#[]⟩, .inl rfl, fun _ => Nat.zero_le _, fun _ => rfl, by omega⟩
  · simp [Value.cells] at hcs
    obtain ⟨rfl, rfl, rfl⟩ := hcs
    have hlm : len ≤ m := by rw [hmm]; split <;> omega
    unfold maxLen at hm
    refine ⟨fun j => if j < len then Sx j else ⟨#[]⟩, ?_, fun j => ?_, (by intro h; cases h), by omega⟩
    · by_cases h0 : len = 0
      · exact .inl h0
      · obtain ⟨b, off, rfl⟩ := plain_addr (hx 0 (by omega)).1
        have hc : ∀ j, j < len → W.cell? ⟨b, off + j, none⟩ = some (.string (Sx j)) := fun j hj => by rw [← Go.WideShapes.add_plain]; exact (hx j (by omega)).1
        exact .inr ⟨b, off, rfl, World.block_lt_of_cell? _ _ (hc 0 (by omega)), fun j hj => by dsimp only; rw [hc j hj, if_pos hj]⟩
    · dsimp only
      by_cases h : j < len
      · rw [if_pos h]; exact (hx j (by omega)).2
      · rw [if_neg h]; exact Nat.zero_le _

theorem nums_in (hf : DataW.trod enc Try.prog W base sp held fuel 24 (Value.slice a len cap).cells.toList = some x) :
    ∃ V : Nat → Int, NumsAt W a len V ∧ (∀ j, (Lit.int .i64 (V j)).wf = true) := by
  rcases open_ints Try.underlying24 Try.underlying2 c2 hf with ⟨hcs, _⟩ | ⟨y, l, c, zs, hcs, _, hl, hm, hz, _, hcell, hwz⟩
  · simp [Value.cells] at hcs
    obtain ⟨rfl, rfl, rfl⟩ := hcs
    exact ⟨fun _ => 0, .inl rfl, fun _ => (show (Lit.int .i64 0).wf = true by decide)⟩
  · simp [Value.cells] at hcs
    obtain ⟨rfl, rfl, rfl⟩ := hcs
    have hlz : len ≤ zs.length := by rw [hz]; split <;> omega
    refine ⟨fun j => zs.getD j 0, ?_, fun j => ?_⟩
    · by_cases h0 : len = 0
      · exact .inl h0
      · obtain ⟨b, off, rfl, hc⟩ := ints_at hcell (by omega)
        exact .inr ⟨b, off, rfl, World.block_lt_of_cell? _ _ (hc 0 (by omega)), fun j hj => hc j (by omega)⟩
    · dsimp only
      by_cases hj : j < zs.length
      · rw [List.getD_eq_getElem?_getD, List.getElem?_eq_getElem hj]; exact hwz _ (List.getElem_mem hj)
      · rw [List.getD_eq_getElem?_getD, List.getElem?_eq_none (by omega)]; decide

theorem mems_in (hf : DataW.trod enc Try.prog W base sp held fuel 22 (Value.slice a len cap).cells.toList = some x) :
    ∃ (N : Nat → ByteArray) (Wt : Nat → Int) (D : Nat → ByteArray), MemsAt W a len N Wt D ∧ (∀ j, -9223372036854775808 ≤ Wt j ∧ Wt j ≤ 9223372036854775807) ∧ (a = none → len = 0 ∧ cap = 0) ∧ len ≤ cap ∧ cap ≤ 9223372036854775807 := by
  rcases Deep.open_slice Try.underlying22 hf with ⟨hcs, _⟩ | ⟨y, l, c, m, n, Dd, Pl, hcs, _, hl, hm, hmm, _, hx⟩
  · simp [Value.cells] at hcs
    obtain ⟨rfl, rfl, rfl⟩ := hcs
    exact ⟨fun _ => ⟨#[]⟩, fun _ => 0, fun _ => ⟨#[]⟩, .inl rfl, fun _ => ⟨(show (-9223372036854775808 : Int) ≤ 0 by omega), (show (0 : Int) ≤ 9223372036854775807 by omega)⟩, fun _ => ⟨rfl, rfl⟩, by omega, by omega⟩
  · simp [Value.cells] at hcs
    obtain ⟨rfl, rfl, rfl⟩ := hcs
    have hlm : len ≤ m := by rw [hmm]; split <;> omega
    unfold maxLen at hm
    have each : ∀ i, i < len → ∃ p : ByteArray × Int × ByteArray, (W.cell? (y.add (i * 3)) = some (.string p.1) ∧ W.cell? (y.add (i * 3 + 1)) = some (.int .i64 p.2.1) ∧ W.cell? (y.add (i * 3 + 2)) = some (.string p.2.2)) ∧ (Lit.int .i64 p.2.1).wf = true := fun i hi => by
      obtain ⟨cs, h1, h2⟩ := hx i (by omega)
      rw [c38] at h1
      obtain ⟨_, hlen, hget⟩ := World.cells?_some h1
      match cs, hlen with
      | [v0, v1, v2], _ =>
        obtain ⟨y0, y1, y2, n', _, _, t0, t1, t2⟩ := Deep.trod_struct3 Try.underlying38 h2
        rw [c9] at t0 t2
        rw [c2] at t1
        obtain ⟨s0, e0, _, _⟩ := DataW.trod_string Try.underlying9 t0
        obtain ⟨z1, e1, _, wz⟩ := DataW.trod_int Try.underlying2 t1
        obtain ⟨s2, e2, _, _⟩ := DataW.trod_string Try.underlying9 t2
        simp at e0 e1 e2
        subst e0 e1 e2
        refine ⟨(s0, z1, s2), ⟨?_, ?_, ?_⟩, wz⟩
        · have := hget 0 (by omega); rw [Deep.add_add] at this; simpa using this
        · have := hget 1 (by omega); rw [Deep.add_add] at this; simpa using this
        · have := hget 2 (by omega); rw [Deep.add_add] at this; simpa using this
    obtain ⟨F, hF⟩ := Deep.choose_lt (α := ByteArray × Int × ByteArray) each
    refine ⟨fun j => (F j).1, fun j => if j < len then (F j).2.1 else 0, fun j => (F j).2.2, ?_, fun j => ?_, (by intro h; cases h), hl, by omega⟩
    · by_cases h0 : len = 0
      · exact .inl h0
      · obtain ⟨b, off, rfl⟩ := plain_addr (by simpa using (hF 0 (by omega)).1.1)
        refine .inr ⟨b, off, rfl, ?_, fun j hj => ?_⟩
        · have := (hF 0 (by omega)).1.1
          rw [Go.WideShapes.add_plain] at this
          exact World.block_lt_of_cell? _ _ this
        · have := (hF j hj).1
          rw [Go.WideShapes.add_plain, Go.WideShapes.add_plain, Go.WideShapes.add_plain] at this
          dsimp only
          rw [if_pos hj]
          exact this
    · dsimp only
      by_cases h : j < len
      · rw [if_pos h]; exact bounds_i64 (hF j h).2
      · rw [if_neg h]; omega
end

end Go.Proofs.Qxb6628571a
