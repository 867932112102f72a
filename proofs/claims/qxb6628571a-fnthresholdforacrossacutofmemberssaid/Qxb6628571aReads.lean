/-
  SEAT b6628571a: THE WALKS OVER THE FUNCTIONS THAT ONLY READ: zzDomainThreshold (7), zzExactWeight (8), the two bounds on sizes (5, 11: zzBytes; 6: zzSizeFits).
-/
import Derived.Test.Qxb6628571aRows
import Derived.Test.Qxb6628571aPlain
import Derived.WalkKit
import Derived.WalkSpells
import Derived.WalkLawsBesides
import Derived.Deep.OwnRows
namespace Go.Proofs.Qxb6628571a
open Go.RowKit

/-- n strings lie behind the slice's address a. -/
def StrsAt (w : World) (a : Option Addr) (n : Nat) (K : Nat → ByteArray) : Prop := n = 0 ∨ ∃ b off, a = some ⟨b, off, none⟩ ∧ b < w.heap.size ∧ ∀ j, j < n → w.cell? ⟨b, off + j, none⟩ = some (.string (K j))
/-- n numbers. -/
def NumsAt (w : World) (a : Option Addr) (n : Nat) (V : Nat → Int) : Prop := n = 0 ∨ ∃ b off, a = some ⟨b, off, none⟩ ∧ b < w.heap.size ∧ ∀ j, j < n → w.cell? ⟨b, off + j, none⟩ = some (.int .i64 (V j))
/-- n members: a name, a weight, a domain each. -/
def MemsAt (w : World) (a : Option Addr) (n : Nat) (N : Nat → ByteArray) (W : Nat → Int) (D : Nat → ByteArray) : Prop := n = 0 ∨ ∃ b off, a = some ⟨b, off, none⟩ ∧ b < w.heap.size ∧
  ∀ j, j < n → w.cell? ⟨b, off + j * 3, none⟩ = some (.string (N j)) ∧ w.cell? ⟨b, off + j * 3 + 1, none⟩ = some (.int .i64 (W j)) ∧ w.cell? ⟨b, off + j * 3 + 2, none⟩ = some (.string (D j))

theorem StrsAt.get {w : World} {a : Option Addr} {n : Nat} {K : Nat → ByteArray} (h : StrsAt w a n K) {k : Nat} (hk : k < n) : ∃ b off, a = some ⟨b, off, none⟩ ∧ w.cell? ⟨b, off + k, none⟩ = some (.string (K k)) := by
  rcases h with h | ⟨b, off, ha, _, hc⟩
  · omega
  · exact ⟨b, off, ha, hc k hk⟩
theorem NumsAt.get {w : World} {a : Option Addr} {n : Nat} {V : Nat → Int} (h : NumsAt w a n V) {k : Nat} (hk : k < n) : ∃ b off, a = some ⟨b, off, none⟩ ∧ w.cell? ⟨b, off + k, none⟩ = some (.int .i64 (V k)) := by
  rcases h with h | ⟨b, off, ha, _, hc⟩
  · omega
  · exact ⟨b, off, ha, hc k hk⟩
theorem MemsAt.get {w : World} {a : Option Addr} {n : Nat} {N D : Nat → ByteArray} {W : Nat → Int} (h : MemsAt w a n N W D) {k : Nat} (hk : k < n) : ∃ b off, a = some ⟨b, off, none⟩ ∧
    w.cell? ⟨b, off + k * 3, none⟩ = some (.string (N k)) ∧ w.cell? ⟨b, off + k * 3 + 1, none⟩ = some (.int .i64 (W k)) ∧ w.cell? ⟨b, off + k * 3 + 2, none⟩ = some (.string (D k)) := by
  rcases h with h | ⟨b, off, ha, _, hc⟩
  · omega
  · exact ⟨b, off, ha, hc k hk⟩
theorem StrsAt.later {w w' : World} {a : Option Addr} {n : Nat} {K : Nat → ByteArray} (h : StrsAt w a n K) (hb : Below w.heap.size w w') : StrsAt w' a n K := by
  rcases h with h | ⟨b, off, ha, hlt, hc⟩
  · exact .inl h
  · exact .inr ⟨b, off, ha, Nat.lt_of_lt_of_le hlt hb.size, fun j hj => (hb.cell (p := ⟨b, off + j, none⟩) hlt).trans (hc j hj)⟩
theorem NumsAt.later {w w' : World} {a : Option Addr} {n : Nat} {V : Nat → Int} (h : NumsAt w a n V) (hb : Below w.heap.size w w') : NumsAt w' a n V := by
  rcases h with h | ⟨b, off, ha, hlt, hc⟩
  · exact .inl h
  · exact .inr ⟨b, off, ha, Nat.lt_of_lt_of_le hlt hb.size, fun j hj => (hb.cell (p := ⟨b, off + j, none⟩) hlt).trans (hc j hj)⟩
theorem MemsAt.later {w w' : World} {a : Option Addr} {n : Nat} {N D : Nat → ByteArray} {W : Nat → Int} (h : MemsAt w a n N W D) (hb : Below w.heap.size w w') : MemsAt w' a n N W D := by
  rcases h with h | ⟨b, off, ha, hlt, hc⟩
  · exact .inl h
  · exact .inr ⟨b, off, ha, Nat.lt_of_lt_of_le hlt hb.size, fun j hj => ⟨(hb.cell (p := ⟨b, off + j * 3, none⟩) hlt).trans (hc j hj).1, (hb.cell (p := ⟨b, off + j * 3 + 1, none⟩) hlt).trans (hc j hj).2.1, (hb.cell (p := ⟨b, off + j * 3 + 2, none⟩) hlt).trans (hc j hj).2.2⟩⟩

set_option maxHeartbeats 400000 in
theorem domain_calls (ka va : Option Addr) (n kc vc : Nat) (K : Nat → ByteArray) (V : Nat → Int) (dom : ByteArray) (w : World) (hk : StrsAt w ka n K) (hv : NumsAt w va n V) (hn : n ≤ 1048576) :
    Calls Try.prog 7 #[.slice ka n kc, .slice va n vc, .string dom] w fun e w' => e = .returned (.tuple #[.int .i64 (lastTo K V dom n).1, .bool (lastTo K V dom n).2]) ∧ w = w' := by
  have HK : Hid (StrsAt w ka n K) := hk
  have HV : Hid (NumsAt w va n V) := hv
  clear hk hv
  go_enter Try.func7, Try.ntmps7
  go_wp2
  go_loop [8, 9, 13] (fun t s i => ∃ k : Nat, k ≤ n ∧ i = .int .i64 k ∧ t = .int .i64 (lastTo K V dom k).1 ∧ s = .bool (lastTo K V dom k).2) (fun _ _ i => n - (intOf i).toNat)
  case atStart => exact ⟨0, Nat.zero_le _, rfl, rfl, rfl⟩
  case round =>
    obtain ⟨k, hk, rfl, rfl, rfl⟩ := hrel
    by_cases hlt : k < n
    · obtain ⟨bk, ok, rfl, hck⟩ := HK.out.get hlt
      obtain ⟨bv, ov, rfl, hcv⟩ := HV.out.get hlt
      have HS : Hid (lastTo K V dom (k + 1) = if ((K k).toList == dom.toList) = true then (V k, true) else lastTo K V dom k) := rfl
      generalize hp : lastTo K V dom k = p at *
      clear hp
      by_cases hc : ((K k).toList == dom.toList) = true
      · go_wp2
        go_round
        case rel => exact ⟨k + 1, by omega, by go_num, by rw [HS.out, if_pos hc], by rw [HS.out, if_pos hc]⟩
        case measure => simp [intOf]; omega
      · have hc' : ((K k).toList == dom.toList) = false := by simpa using hc
        go_wp2
        go_round
        case rel => exact ⟨k + 1, by omega, by go_num, by rw [HS.out, if_neg hc], by rw [HS.out, if_neg hc]⟩
        case measure => simp [intOf]; omega
    · obtain rfl : k = n := by omega
      go_wp2
      go_ret2
      exact ⟨rfl, rfl⟩


/-- What zzExactWeight answers: a sum and 'true' where the sum is exact and within its bounds; else whatever and 'false'. -/
def WeightOut (W : Nat → Int) (D : Nat → ByteArray) (dom : ByteArray) (n : Nat) (e : Ending) : Prop :=
  ∃ t ok, e = .returned (.tuple #[.int .i64 t, .bool ok]) ∧ (ok = true → t = sumTo W D dom n ∧ 0 ≤ t ∧ t ≤ 4611686018427387904)
theorem WeightOut.no {W : Nat → Int} {D : Nat → ByteArray} {dom : ByteArray} {n : Nat} : WeightOut W D dom n (.returned (.tuple #[.int .i64 0, .bool false])) := ⟨0, false, rfl, fun h => by cases h⟩
theorem WeightOut.yes {W : Nat → Int} {D : Nat → ByteArray} {dom : ByteArray} {n : Nat} (h0 : 0 ≤ sumTo W D dom n) (h1 : sumTo W D dom n ≤ 4611686018427387904) : WeightOut W D dom n (.returned (.tuple #[.int .i64 (sumTo W D dom n), .bool true])) := ⟨_, true, rfl, fun _ => ⟨rfl, h0, h1⟩⟩

set_option maxHeartbeats 1000000 in
theorem weight_calls (a : Option Addr) (n c : Nat) (N D : Nat → ByteArray) (W : Nat → Int) (dom : ByteArray) (w : World) (hm : MemsAt w a n N W D) (hn : n ≤ 1048576) (hw : ∀ j, -9223372036854775808 ≤ W j ∧ W j ≤ 9223372036854775807) :
    Calls Try.prog 8 #[.slice a n c, .string dom] w fun e w' => WeightOut W D dom n e ∧ w = w' := by
  have HM : Hid (MemsAt w a n N W D) := hm
  have HW : Hid (∀ j, -9223372036854775808 ≤ W j ∧ W j ≤ 9223372036854775807) := hw
  clear hm hw
  go_enter Try.func8, Try.ntmps8
  go_wp2
  go_loop [6, 11] (fun t i => ∃ k : Nat, k ≤ n ∧ i = .int .i64 k ∧ t = .int .i64 (sumTo W D dom k) ∧ -9223372036854775808 ≤ sumTo W D dom k ∧ sumTo W D dom k ≤ 9223372036854775807) (fun _ i => n - (intOf i).toNat)
  case atStart => exact ⟨0, Nat.zero_le _, rfl, rfl, by simp [sumTo], by simp [sumTo]⟩
  case round =>
    obtain ⟨k, hk, rfl, rfl, hs0, hs1⟩ := hrel
    by_cases hlt : k < n
    · obtain ⟨b, off, rfl, hc0, hc1, hc2⟩ := HM.out.get hlt
      have hwk := HW.out k
      have HS : Hid _ := sumTo_succ W D dom k
      generalize hs : sumTo W D dom k = s at *
      clear hs
      generalize W k = x at *
      by_cases hc : ((D k).toList == dom.toList) = true
      · go_wp2
        all_goals first
          | (go_ret2; exact ⟨WeightOut.no, rfl⟩)
          | (go_round
             case rel => exact ⟨k + 1, by omega, by go_num, by rw [HS.out, if_pos hc], by rw [HS.out, if_pos hc]; omega, by rw [HS.out, if_pos hc]; omega⟩
             case measure => simp [intOf]; omega)
      · have hc' : ((D k).toList == dom.toList) = false := by simpa using hc
        go_wp2
        go_round
        case rel => exact ⟨k + 1, by omega, by go_num, by rw [HS.out, if_neg hc], by rw [HS.out, if_neg hc]; exact hs0, by rw [HS.out, if_neg hc]; exact hs1⟩
        case measure => simp [intOf]; omega
    · obtain rfl : k = n := by omega
      by_cases h0 : sumTo W D dom k < 0
      · go_wp2
        go_ret2
        exact ⟨WeightOut.no, rfl⟩
      · by_cases h1 : 4611686018427387904 < sumTo W D dom k
        · go_wp2
          go_ret2
          exact ⟨WeightOut.no, rfl⟩
        · go_wp2
          go_ret2
          exact ⟨WeightOut.yes (by omega) (by omega), rfl⟩

end Go.Proofs.Qxb6628571a
