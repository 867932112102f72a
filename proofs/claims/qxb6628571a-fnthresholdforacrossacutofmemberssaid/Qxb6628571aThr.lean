/-
  SEAT b6628571a: THE WALK OVER (policy.Permission).ThresholdFor (function 10).
-/
import Derived.Test.Qxb6628571aPerm
namespace Go.Proofs.Qxb6628571a
open Go.RowKit

set_option maxHeartbeats 1000000 in
theorem thr_set (nm : ByteArray) (ma : Option Addr) (n mc m : Nat) (thr rej : Int) (dm : Option Nat) (K : Nat → ByteArray) (V : Nat → Int) (dom : ByteArray) (w : World) (hm : MapIs w dm K V m) (hd : dom.size ≤ maxLen) (hset : (lastTo K V dom m).2 = true) :
    Calls Try.prog 10 #[.agg #[.string nm, .slice ma n mc, .int .i64 thr, .map dm, .int .i64 rej], .string dom] w fun e w' => e = .returned (.int .i64 (lastTo K V dom m).1) ∧ Below w.heap.size w w' := by
  have HB : Hid (Below w.heap.size w (w.alloc (.cells #[.string nm, .slice ma n mc, .int .i64 thr, .map dm, .int .i64 rej] 33))) := (Below.refl _ _).alloc (Nat.le_refl _) _
  have hl := (hm.later HB.out).look dom hd
  rw [hset] at hl
  clear hm hset hd
  generalize (lastTo K V dom m).1 = t at *
  go_enter Try.func10, Try.ntmps10
  go_wp2
  go_ret
  exact ⟨rfl, HB⟩

set_option maxHeartbeats 1000000 in
theorem thr_def (nm : ByteArray) (ma : Option Addr) (n mc m : Nat) (thr rej : Int) (dm : Option Nat) (K : Nat → ByteArray) (V : Nat → Int) (dom : ByteArray) (w : World) (hm : MapIs w dm K V m) (hd : dom.size ≤ maxLen) (hset : (lastTo K V dom m).2 = false) (ht : (thr != 0) = true) :
    Calls Try.prog 10 #[.agg #[.string nm, .slice ma n mc, .int .i64 thr, .map dm, .int .i64 rej], .string dom] w fun e w' => e = .returned (.int .i64 thr) ∧ Below w.heap.size w w' := by
  have HB : Hid (Below w.heap.size w (w.alloc (.cells #[.string nm, .slice ma n mc, .int .i64 thr, .map dm, .int .i64 rej] 33))) := (Below.refl _ _).alloc (Nat.le_refl _) _
  have hl := (hm.later HB.out).look dom hd
  rw [hset] at hl
  clear hm hset hd
  generalize (lastTo K V dom m).1 = t at *
  go_enter Try.func10, Try.ntmps10
  go_wp2
  go_ret
  exact ⟨rfl, HB⟩

set_option maxHeartbeats 1000000 in
theorem thr_maj (nm : ByteArray) (ma : Option Addr) (n mc m : Nat) (rej : Int) (dm : Option Nat) (K N D : Nat → ByteArray) (V W : Nat → Int) (dom : ByteArray) (w : World) (hm : MapIs w dm K V m) (hd : dom.size ≤ maxLen) (hset : (lastTo K V dom m).2 = false)
    (hms : MemsAt w ma n N W D) (hn : n ≤ 1048576) (h0 : 0 ≤ sumTo W D dom n) (h1 : sumTo W D dom n ≤ 4611686018427387904) :
    Calls Try.prog 10 #[.agg #[.string nm, .slice ma n mc, .int .i64 0, .map dm, .int .i64 rej], .string dom] w fun e w' => e = .returned (.int .i64 (sumTo W D dom n / 2 + 1)) ∧ Below w.heap.size w w' := by
  have HB : Hid (Below w.heap.size w (w.alloc (.cells #[.string nm, .slice ma n mc, .int .i64 0, .map dm, .int .i64 rej] 33))) := (Below.refl _ _).alloc (Nat.le_refl _) _
  have HM : Hid (MemsAt (w.alloc (.cells #[.string nm, .slice ma n mc, .int .i64 0, .map dm, .int .i64 rej] 33)) ma n N W D) := hms.later HB.out
  have hl := (hm.later HB.out).look dom hd
  rw [hset] at hl
  have HS0 : Hid (0 ≤ sumTo W D dom n ∧ sumTo W D dom n ≤ 4611686018427387904) := ⟨h0, h1⟩
  clear hm hset hd hms h0 h1
  generalize (lastTo K V dom m).1 = t at *
  go_enter Try.func10, Try.ntmps10
  go_wp2
  clear hl
  generalize w.alloc (.cells #[.string nm, .slice ma n mc, .int .i64 0, .map dm, .int .i64 rej] 33) = w0 at *
  go_loopw [7, 27] (fun s i wr => ∃ k : Nat, k ≤ n ∧ i = .int .i64 k ∧ s = .int .i64 (wrap64 (sumTo W D dom k)) ∧ Hid (Below w0.heap.size w0 wr)) (fun _ i _ => n - (intOf i).toNat)
  case atStart => exact ⟨0, Nat.zero_le _, rfl, by simp [sumTo, wrap64], Below.refl _ _⟩
  case round =>
    obtain ⟨k, hk, rfl, rfl, HW⟩ := hrel
    by_cases hlt : k < n
    · obtain ⟨b, off, rfl, hc0, hc1, hc2⟩ := (HM.out.later HW.out).get hlt
      have HS : Hid (sumTo W D dom (k + 1) = _) := sumTo_succ W D dom k
      have HA : Hid (∀ x, wrap64 (wrap64 (sumTo W D dom k) + x) = wrap64 (sumTo W D dom k + x)) := wrap_add _
      have HR : Hid (∀ o, Below w0.heap.size w0 (wr.alloc o)) := fun o => HW.out.alloc HW.out.size o
      by_cases hc : ((D k).toList == dom.toList) = true
      · go_wp2
        go_roundw
        case rel => exact ⟨k + 1, by omega, by go_num, by rw [HS.out, if_pos hc, HA.out], HR.out _⟩
        case measure => simp [intOf]; omega
      · have hc' : ((D k).toList == dom.toList) = false := by simpa using hc
        go_wp2
        go_roundw
        case rel => exact ⟨k + 1, by omega, by go_num, by rw [HS.out, if_neg hc], HR.out _⟩
        case measure => simp [intOf]; omega
    · obtain rfl : k = n := by omega
      have h0 := HS0.out.1
      have h1 := HS0.out.2
      rw [wrap_in _ h0 h1]
      have HE : Hid (Below w.heap.size w wr) := HB.out.trans (HW.out.mono HB.out.size)
      go_wp2
      go_ret
      exact ⟨rfl, HE⟩

end Go.Proofs.Qxb6628571a
