/-
  SEAT b6628571a: THE WALKS OVER THE BOUNDS ON SIZES: zzBytes_.. (5, 11), zzSizeFits (6). They only read.
-/
import Derived.Test.Qxb6628571aReads
namespace Go.Proofs.Qxb6628571a
open Go.RowKit

/-- What zzBytes answers: where it says yes the two lengths are small. -/
def BytesOut (n m : Nat) (e : Ending) : Prop := ∃ v, e = .returned (.bool v) ∧ (v = true → n ≤ 1048576 ∧ m ≤ 1048576)
theorem BytesOut.no {n m : Nat} : BytesOut n m (.returned (.bool false)) := ⟨false, rfl, fun h => by cases h⟩
theorem BytesOut.yes {n m : Nat} (h1 : n ≤ 1048576) (h2 : m ≤ 1048576) : BytesOut n m (.returned (.bool true)) := ⟨true, rfl, fun _ => ⟨h1, h2⟩⟩
def BoolOut (e : Ending) : Prop := ∃ v, e = .returned (.bool v)

set_option maxHeartbeats 2000000 in
theorem bytes5 (nm : ByteArray) (a ka va : Option Addr) (n c m kc vn vc : Nat) (thr rej : Int) (dom : ByteArray) (N D K : Nat → ByteArray) (W : Nat → Int) (w : World) (hm : MemsAt w a n N W D) (hk : StrsAt w ka m K)
    (hn : n ≤ 9223372036854775807) (hmm : m ≤ 9223372036854775807) :
    Calls Try.prog 5 #[.string nm, .slice a n c, .int .i64 thr, .slice ka m kc, .slice va vn vc, .int .i64 rej, .string dom] w fun e w' => BytesOut n m e ∧ w = w' := by
  have HM : Hid (MemsAt w a n N W D) := hm
  have HK : Hid (StrsAt w ka m K) := hk
  clear hm hk
  go_enter Try.func5, Try.ntmps5
  go_wp2
  all_goals first
    | (go_ret; exact ⟨BytesOut.no, rfl⟩)
    | skip
  go_loop [15, 16] (fun z i => ∃ (k : Nat) (t : Int), k ≤ n ∧ i = .int .i64 k ∧ z = .int .i64 t) (fun _ i => n - (intOf i).toNat)
  case atStart => exact ⟨0, _, Nat.zero_le _, rfl, rfl⟩
  case round =>
    obtain ⟨k, t, hk, rfl, rfl⟩ := hrel
    by_cases hlt : k < n
    · obtain ⟨b, off, rfl, hc0, hc1, hc2⟩ := HM.out.get hlt
      generalize N k = s0 at *
      generalize D k = s2 at *
      go_wp2
      all_goals first
        | (go_ret; exact ⟨BytesOut.no, rfl⟩)
        | (go_round
           case rel => exact ⟨k + 1, _, by omega, by go_num, rfl⟩
           case measure => simp [intOf]; omega)
    · clear HM
      go_wp2
      all_goals first
        | (go_ret; exact ⟨BytesOut.no, rfl⟩)
        | skip
      go_loop [15, 17] (fun z i => ∃ (k : Nat) (t : Int), k ≤ m ∧ i = .int .i64 k ∧ z = .int .i64 t) (fun _ i => m - (intOf i).toNat)
      case atStart => exact ⟨0, _, Nat.zero_le _, rfl, rfl⟩
      case round =>
        obtain ⟨k, t, hk, rfl, rfl⟩ := hrel
        by_cases hlt : k < m
        · obtain ⟨b, off, rfl, hc0⟩ := HK.out.get hlt
          generalize K k = s0 at *
          go_wp2
          all_goals first
            | (go_ret; exact ⟨BytesOut.no, rfl⟩)
            | (go_round
               case rel => exact ⟨k + 1, _, by omega, by go_num, rfl⟩
               case measure => simp [intOf]; omega)
        · clear HK
          go_wp2
          all_goals first
            | (go_ret; exact ⟨BytesOut.no, rfl⟩)
            | (go_ret; exact ⟨BytesOut.yes (by omega) (by omega), rfl⟩)

set_option maxHeartbeats 2000000 in
theorem bytes11 (nm : ByteArray) (a ka va : Option Addr) (n c m kc vn vc : Nat) (thr rej : Int) (dom : ByteArray) (cut : Int) (N D K : Nat → ByteArray) (W : Nat → Int) (w : World) (hm : MemsAt w a n N W D) (hk : StrsAt w ka m K)
    (hn : n ≤ 9223372036854775807) (hmm : m ≤ 9223372036854775807) :
    Calls Try.prog 11 #[.string nm, .slice a n c, .int .i64 thr, .slice ka m kc, .slice va vn vc, .int .i64 rej, .string dom, .int .i64 cut] w fun e w' => BytesOut n m e ∧ w = w' := by
  have HM : Hid (MemsAt w a n N W D) := hm
  have HK : Hid (StrsAt w ka m K) := hk
  clear hm hk
  go_enter Try.func11, Try.ntmps11
  go_wp2
  all_goals first
    | (go_ret; exact ⟨BytesOut.no, rfl⟩)
    | skip
  go_loop [17, 18] (fun z i => ∃ (k : Nat) (t : Int), k ≤ n ∧ i = .int .i64 k ∧ z = .int .i64 t) (fun _ i => n - (intOf i).toNat)
  case atStart => exact ⟨0, _, Nat.zero_le _, rfl, rfl⟩
  case round =>
    obtain ⟨k, t, hk, rfl, rfl⟩ := hrel
    by_cases hlt : k < n
    · obtain ⟨b, off, rfl, hc0, hc1, hc2⟩ := HM.out.get hlt
      generalize N k = s0 at *
      generalize D k = s2 at *
      go_wp2
      all_goals first
        | (go_ret; exact ⟨BytesOut.no, rfl⟩)
        | (go_round
           case rel => exact ⟨k + 1, _, by omega, by go_num, rfl⟩
           case measure => simp [intOf]; omega)
    · clear HM
      go_wp2
      all_goals first
        | (go_ret; exact ⟨BytesOut.no, rfl⟩)
        | skip
      go_loop [17, 19] (fun z i => ∃ (k : Nat) (t : Int), k ≤ m ∧ i = .int .i64 k ∧ z = .int .i64 t) (fun _ i => m - (intOf i).toNat)
      case atStart => exact ⟨0, _, Nat.zero_le _, rfl, rfl⟩
      case round =>
        obtain ⟨k, t, hk, rfl, rfl⟩ := hrel
        by_cases hlt : k < m
        · obtain ⟨b, off, rfl, hc0⟩ := HK.out.get hlt
          generalize K k = s0 at *
          go_wp2
          all_goals first
            | (go_ret; exact ⟨BytesOut.no, rfl⟩)
            | (go_round
               case rel => exact ⟨k + 1, _, by omega, by go_num, rfl⟩
               case measure => simp [intOf]; omega)
        · clear HK
          go_wp2
          all_goals first
            | (go_ret; exact ⟨BytesOut.no, rfl⟩)
            | (go_ret; exact ⟨BytesOut.yes (by omega) (by omega), rfl⟩)

set_option maxHeartbeats 2000000 in
theorem sizes6 (nm : ByteArray) (a ka va : Option Addr) (n c m kc vn vc : Nat) (dom : ByteArray) (N D K : Nat → ByteArray) (W : Nat → Int) (w : World) (hm : MemsAt w a n N W D) (hk : StrsAt w ka m K)
    (hn : n ≤ 1048576) (hmm : m ≤ 1048576) :
    Calls Try.prog 6 #[.string nm, .slice a n c, .slice ka m kc, .slice va vn vc, .string dom] w fun e w' => BoolOut e ∧ w = w' := by
  have HM : Hid (MemsAt w a n N W D) := hm
  have HK : Hid (StrsAt w ka m K) := hk
  clear hm hk
  go_enter Try.func6, Try.ntmps6
  go_wp2
  all_goals first
    | (go_ret; exact ⟨⟨_, rfl⟩, rfl⟩)
    | skip
  go_loop [11, 32] (fun z i => ∃ (k : Nat) (t : Int), k ≤ n ∧ i = .int .i64 k ∧ z = .int .i64 t) (fun _ i => n - (intOf i).toNat)
  case atStart => exact ⟨0, _, Nat.zero_le _, rfl, rfl⟩
  case round =>
    obtain ⟨k, t, hk, rfl, rfl⟩ := hrel
    by_cases hlt : k < n
    · obtain ⟨b, off, rfl, hc0, hc1, hc2⟩ := HM.out.get hlt
      generalize N k = s0 at *
      generalize D k = s2 at *
      go_wp2
      all_goals first
        | (go_ret; exact ⟨⟨_, rfl⟩, rfl⟩)
        | (go_round
           case rel => exact ⟨k + 1, _, by omega, by go_num, rfl⟩
           case measure => simp [intOf]; omega)
    · clear HM
      go_wp2
      go_loop [11, 74] (fun z i => ∃ (k : Nat) (t : Int), k ≤ m ∧ i = .int .i64 k ∧ z = .int .i64 t) (fun _ i => m - (intOf i).toNat)
      case atStart => exact ⟨0, _, Nat.zero_le _, rfl, rfl⟩
      case round =>
        obtain ⟨k, t, hk, rfl, rfl⟩ := hrel
        by_cases hlt : k < m
        · obtain ⟨b, off, rfl, hc0⟩ := HK.out.get hlt
          generalize K k = s0 at *
          go_wp2
          all_goals first
            | (go_ret; exact ⟨⟨_, rfl⟩, rfl⟩)
            | (go_round
               case rel => exact ⟨k + 1, _, by omega, by go_num, rfl⟩
               case measure => simp [intOf]; omega)
        · clear HK
          go_wp2
          all_goals (go_ret; exact ⟨⟨_, rfl⟩, rfl⟩)

end Go.Proofs.Qxb6628571a
