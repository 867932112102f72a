/-
  SEAT b6630529a: THE WALKS OVER THE LEAVES: mixTail (14), mixBody (13), pairScore (11), zzRb1Score (9), ZZhighest's bounds (5, 8); math/bits.Sub64 (12), for which the model stands in.
-/
import Derived.Test.Qxb6630529aRows
import Derived.Test.Qxb6630529aPlain
import Derived.WalkKit
import Derived.WalkSpells
import Derived.WalkLawsBesides
import Derived.Shelf.Spec.BitsCarry
namespace Go.Proofs.Qxb6630529a
open Go.RowKit

theorem tail_calls (x : Int) (w : World) (h : InU x) : Calls Try.prog 14 #[.int .u64 x] w fun e w' => e = .returned (.int .u64 (tailU x)) ∧ w = w' := by
  obtain ⟨h0, h1⟩ := h
  unfold tailU
  go_enter Try.func14, Try.ntmps14
  go_wp2
  go_ret
  exact ⟨rfl, rfl⟩
theorem body_calls (x : Int) (w : World) (h : InU x) : Calls Try.prog 13 #[.int .u64 x] w fun e w' => e = .returned (.int .u64 (bodyU x)) ∧ w = w' := by
  obtain ⟨h0, h1⟩ := h
  unfold bodyU
  go_enter Try.func13, Try.ntmps13
  go_wp2
  go_ret
  exact ⟨rfl, rfl⟩
theorem pair_calls (k m : Int) (w : World) (hk : InU k) (hm : InU m) : Calls Try.prog 11 #[.int .u64 k, .int .u64 m] w fun e w' => e = .returned (.int .u64 (scoreU k m)) ∧ w = w' := by
  have HX : Hid (InU (bits .xor .u64 k m)) := xor_in hk hm
  obtain ⟨k0, k1⟩ := hk
  obtain ⟨m0, m1⟩ := hm
  unfold scoreU
  go_enter Try.func11, Try.ntmps11
  go_wp2_with fail
  refine (body_calls _ _ HX.out).mono ?_
  rintro e w' ⟨rfl, rfl⟩
  go_wp2_with fail
  refine (tail_calls _ _ (body_in _)).mono ?_
  rintro e w' ⟨rfl, rfl⟩
  go_wp2
  go_ret
  exact ⟨rfl, rfl⟩
theorem score_calls (k m : Int) (w : World) (hk : InU k) (hm : InU m) : Calls Try.prog 9 #[.int .u64 k, .int .u64 m] w fun e w' => e = .returned (.int .u64 (scoreU k m)) ∧ w = w' := by
  have hx := xor_in hk hm
  obtain ⟨k0, k1⟩ := hk
  obtain ⟨m0, m1⟩ := hm
  unfold scoreU tailU bodyU
  obtain ⟨x0, x1⟩ := hx
  go_enter Try.func9, Try.ntmps9
  go_wp2
  go_ret
  exact ⟨rfl, rfl⟩

/-- bits.Sub64 with no borrow coming in: the borrow going out. -/
theorem sub_run (x y : Nat) (w : World) : (callFunc 12 #[.int .u64 (x : Int), .int .u64 (y : Int), .int .u64 0]).run Try.prog w =
    .ok (.value (.tuple #[.int .u64 (((x + 18446744073709551616 - y - 0) % 18446744073709551616 : Nat) : Int), .int .u64 ((if x < y + 0 then 1 else 0 : Nat) : Int)])) w := by
  rw [run_callFunc_extern Try.func12 (by kernel_rfl) (by kernel_rfl) (by kernel_rfl) (e := sub64Entry) (by kernel_rfl)]
  rw [show (Value.int .u64 0) = .int .u64 ((0 : Nat) : Int) from rfl, run_sub64 x y 0 (by omega)]
  rfl
theorem sub_lt {x y : Int} (hx : InU x) (hy : InU y) (h : x < y) : ∃ d, ∀ w, (callFunc 12 #[.int .u64 x, .int .u64 y, .int .u64 0]).run Try.prog w = .ok (.value (.tuple #[.int .u64 d, .int .u64 1])) w := by
  obtain ⟨m, rfl⟩ := Int.eq_ofNat_of_zero_le hx.1
  obtain ⟨n, rfl⟩ := Int.eq_ofNat_of_zero_le hy.1
  exact ⟨(((m + 18446744073709551616 - n - 0) % 18446744073709551616 : Nat) : Int), fun w => by rw [sub_run m n w, if_pos (by omega)]; rfl⟩
theorem sub_ge {x y : Int} (hx : InU x) (hy : InU y) (h : ¬ x < y) : ∃ d, ∀ w, (callFunc 12 #[.int .u64 x, .int .u64 y, .int .u64 0]).run Try.prog w = .ok (.value (.tuple #[.int .u64 d, .int .u64 0])) w := by
  obtain ⟨m, rfl⟩ := Int.eq_ofNat_of_zero_le hx.1
  obtain ⟨n, rfl⟩ := Int.eq_ofNat_of_zero_le hy.1
  exact ⟨(((m + 18446744073709551616 - n - 0) % 18446744073709551616 : Nat) : Int), fun w => by rw [sub_run m n w, if_neg (by omega)]; rfl⟩

def BoolOut (e : Ending) : Prop := ∃ v, e = .returned (.bool v)
theorem bytes5 (a : Option Addr) (n c : Nat) (k : Int) (w : World) : Calls Try.prog 5 #[.slice a n c, .int .u64 k] w fun e w' => BoolOut e ∧ w = w' := by
  go_enter Try.func5, Try.ntmps5
  go_wp2
  all_goals (go_ret; exact ⟨⟨_, rfl⟩, rfl⟩)
theorem bytes8 (a b : Option Addr) (n c m d : Nat) (k : Int) (w : World) : Calls Try.prog 8 #[.slice a n c, .slice b m d, .int .u64 k] w fun e w' => BoolOut e ∧ w = w' := by
  go_enter Try.func8, Try.ntmps8
  go_wp2
  all_goals (go_ret; exact ⟨⟨_, rfl⟩, rfl⟩)
end Go.Proofs.Qxb6630529a
