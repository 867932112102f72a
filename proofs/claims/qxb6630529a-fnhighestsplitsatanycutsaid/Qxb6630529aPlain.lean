/-
  THE PLAIN LAWS OF SEAT b6630529a: the score, its parts, what its tail leaves as it is; the first index with the greatest score, found by one scan; how the winner of two lists joined is found. No program in this text.
-/
import Derived.Laws.Bits64
import Derived.Laws.Bits64b
import Derived.Laws.BitsAllLaws
namespace Go.Proofs.Qxb6630529a

/-- A number of 64 bits. -/
def InU (x : Int) : Prop := 0 ≤ x ∧ x ≤ 18446744073709551615

def tailU (x : Int) : Int := bits .xor .u64 x (x / 2147483648)
def bodyU (x : Int) : Int := IntKind.u64.wrap (bits .xor .u64 (IntKind.u64.wrap (x * 13787848793156543929)) (IntKind.u64.wrap (x * 13787848793156543929) / 134217728) * 10723151780598845931)
def scoreU (k m : Int) : Int := tailU (bodyU (bits .xor .u64 k m))
def floorU (b : Int) : Int := bits .andNot .u64 b 8589934591

theorem xor_in {a b : Int} (ha : InU a) (hb : InU b) : InU (bits .xor .u64 a b) := by
  obtain ⟨a0, a1⟩ := ha
  obtain ⟨b0, b1⟩ := hb
  rw [u64_xor a b a0 (by omega) b0 (by omega)]
  have h : a.toNat ^^^ b.toNat < 2 ^ 64 := Nat.xor_lt_two_pow (by omega) (by omega)
  unfold InU
  omega
theorem wrap_in (n : Int) : InU (IntKind.u64.wrap n) := by
  rw [IntKind.wrap_u64]; unfold InU; omega
theorem div_in {x : Int} (h : InU x) (d : Int) (hd : 1 ≤ d) : InU (x / d) := by
  obtain ⟨h0, h1⟩ := h
  refine ⟨Int.ediv_nonneg h0 (by omega), Int.le_trans (Int.ediv_le_self _ h0) h1⟩
theorem tail_in {x : Int} (h : InU x) : InU (tailU x) := xor_in h (div_in h _ (by omega))
theorem body_in (x : Int) : InU (bodyU x) := wrap_in _
theorem score_in (k m : Int) : InU (scoreU k m) := tail_in (body_in _)

/-- The tail leaves the top 31 bits as they are. -/
theorem tail_top {x : Int} (h : InU x) : tailU x / 8589934592 = x / 8589934592 := by
  obtain ⟨h0, h1⟩ := h
  obtain ⟨n, rfl⟩ := Int.eq_ofNat_of_zero_le h0
  have hn : n < 18446744073709551616 := by omega
  unfold tailU
  have hx := xorShift_u64 n 2147483648 hn
  rw [show (((2147483648 : Nat) : Int)) = 2147483648 from rfl] at hx
  rw [hx]
  have e : (n ^^^ n / 2147483648) / 8589934592 = n / 8589934592 := by
    have h1 : (n ^^^ n / 2147483648) >>> 33 = n >>> 33 ^^^ (n / 2147483648) >>> 33 := Nat.shiftRight_xor_distrib
    have h2 : (n / 2147483648) >>> 33 = 0 := by
      rw [Nat.shiftRight_eq_div_pow]
      exact Nat.div_eq_of_lt (by omega)
    rw [h2, Nat.xor_zero, Nat.shiftRight_eq_div_pow, Nat.shiftRight_eq_div_pow] at h1
    exact h1
  omega

theorem mask_nat (n : Nat) (hn : n < 2 ^ 64) : n &&& 18446744065119617024 = n / 8589934592 * 8589934592 := by
  have e1 : (18446744065119617024 : Nat) = (2 ^ 31 - 1) <<< 33 := by decide
  have e2 : n / 8589934592 * 8589934592 = (n >>> 33) <<< 33 := by rw [Nat.shiftLeft_eq, Nat.shiftRight_eq_div_pow]
  rw [e1, e2]
  apply Nat.eq_of_testBit_eq
  intro i
  rw [Nat.testBit_and, Nat.testBit_shiftLeft, Nat.testBit_shiftLeft, Nat.testBit_two_pow_sub_one, Nat.testBit_shiftRight]
  by_cases h33 : 33 ≤ i
  · by_cases h64 : i < 64
    · simp [h33, show i - 33 < 31 by omega, show 33 + (i - 33) = i by omega]
    · have hb : n.testBit i = false := Nat.testBit_lt_two_pow (Nat.lt_of_lt_of_le hn (Nat.pow_le_pow_right (by omega) (by omega)))
      simp [hb, show 33 + (i - 33) = i by omega]
  · simp [h33]
theorem floor_eq {b : Int} (h : InU b) : floorU b = b / 8589934592 * 8589934592 := by
  obtain ⟨h0, h1⟩ := h
  obtain ⟨n, rfl⟩ := Int.eq_ofNat_of_zero_le h0
  unfold floorU
  rw [show (8589934591 : Int) = ((8589934591 : Nat) : Int) from rfl, u64_andNot_nat n 8589934591 (by omega) (by omega)]
  rw [show 18446744073709551615 - 8589934591 = 18446744065119617024 from rfl, mask_nat n (by omega)]
  omega
theorem floor_in {b : Int} (h : InU b) : InU (floorU b) := by
  rw [floor_eq h]
  obtain ⟨h0, h1⟩ := h
  unfold InU
  omega
/-- WHAT IS SKIPPED SCORES LOWER. -/
theorem skip_low {x b : Int} (hx : InU x) (hb : InU b) (h : x < floorU b) : tailU x < b := by
  rw [floor_eq hb] at h
  have ht := tail_top hx
  obtain ⟨h0, h1⟩ := hx
  omega

/-! ### The branch that is none -/
theorem and_ones {x : Int} (h : InU x) : bits .and .u64 x 18446744073709551615 = x := by
  obtain ⟨h0, h1⟩ := h
  obtain ⟨n, rfl⟩ := Int.eq_ofNat_of_zero_le h0
  rw [show (18446744073709551615 : Int) = ((18446744073709551615 : Nat) : Int) from rfl, u64_and_nat n 18446744073709551615 (by omega) (by omega)]
  have : n &&& (2 ^ 64 - 1) = n % 2 ^ 64 := Nat.and_two_pow_sub_one_eq_mod n 64
  rw [show (2 ^ 64 - 1 : Nat) = 18446744073709551615 from rfl] at this
  rw [this, Nat.mod_eq_of_lt (by omega)]
theorem and_zero {x : Int} (h : InU x) : bits .and .u64 x 0 = 0 := by
  obtain ⟨h0, h1⟩ := h
  obtain ⟨n, rfl⟩ := Int.eq_ofNat_of_zero_le h0
  rw [show (0 : Int) = ((0 : Nat) : Int) from rfl, u64_and_nat n 0 (by omega) (by omega), Nat.and_zero]
theorem xor_zero {x : Int} (h : InU x) : bits .xor .u64 x 0 = x := by
  obtain ⟨h0, h1⟩ := h
  obtain ⟨n, rfl⟩ := Int.eq_ofNat_of_zero_le h0
  rw [show (0 : Int) = ((0 : Nat) : Int) from rfl, u64_xor_nat n 0 (by omega) (by omega), Nat.xor_zero]
theorem xor_back {a b : Int} (ha : InU a) (hb : InU b) : bits .xor .u64 a (bits .xor .u64 a b) = b := by
  obtain ⟨a0, a1⟩ := ha
  obtain ⟨b0, b1⟩ := hb
  obtain ⟨m, rfl⟩ := Int.eq_ofNat_of_zero_le a0
  obtain ⟨n, rfl⟩ := Int.eq_ofNat_of_zero_le b0
  have h : m ^^^ n < 2 ^ 64 := Nat.xor_lt_two_pow (by omega) (by omega)
  rw [u64_xor_nat m n (by omega) (by omega), u64_xor_nat m (m ^^^ n) (by omega) (by omega), ← Nat.xor_assoc, Nat.xor_self, Nat.zero_xor]
theorem pick_yes {a b : Int} (ha : InU a) (hb : InU b) : bits .xor .u64 a (bits .and .u64 (bits .xor .u64 a b) 18446744073709551615) = b := by
  rw [and_ones (xor_in ha hb), xor_back ha hb]
theorem pick_no {a b : Int} (ha : InU a) (hb : InU b) : bits .xor .u64 a (bits .and .u64 (bits .xor .u64 a b) 0) = a := by
  rw [and_zero (xor_in ha hb), xor_zero ha]

/-! ### The first index with the greatest score -/
def bestTo (f : Nat → Int) : Nat → Nat
  | 0 => 0
  | k + 1 => if f (bestTo f k) < f k then k else bestTo f k
theorem bestTo_succ (f : Nat → Int) (k : Nat) : bestTo f (k + 1) = if f (bestTo f k) < f k then k else bestTo f k := rfl
theorem bestTo_lt (f : Nat → Int) : ∀ k, 0 < k → bestTo f k < k
  | 0, h => by omega
  | k + 1, _ => by
    rw [bestTo_succ]
    split
    · omega
    · by_cases hk : 0 < k
      · have := bestTo_lt f k hk; omega
      · have : k = 0 := by omega
        subst this; simp [bestTo]
theorem bestTo_one (f : Nat → Int) : bestTo f 1 = 0 := by
  rw [bestTo_succ]; split <;> rfl
theorem bestTo_congr (f g : Nat → Int) : ∀ k, (∀ j, j < k → f j = g j) → bestTo f k = bestTo g k
  | 0, _ => rfl
  | k + 1, h => by
    have ih := bestTo_congr f g k (fun j hj => h j (by omega))
    rw [bestTo_succ, bestTo_succ, ih]
    by_cases hk : 0 < k
    · rw [h _ (show bestTo g k < k + 1 by have := bestTo_lt g k hk; omega), h k (by omega)]
    · have : k = 0 := by omega
      subst this
      rw [h 0 (by omega)]
      rw [show bestTo g 0 = 0 from rfl, h 0 (by omega)]

/-- THE CUT: the winner of n and m nodes joined. -/
theorem bestTo_cut (f : Nat → Int) (n : Nat) (hn : 0 < n) : ∀ m, 0 < m →
    bestTo f (n + m) = if f (bestTo f n) < f (n + bestTo (fun j => f (n + j)) m) then n + bestTo (fun j => f (n + j)) m else bestTo f n
  | 0, h => by omega
  | m + 1, _ => by
    rw [← Nat.add_assoc, bestTo_succ f (n + m), bestTo_succ (fun j => f (n + j)) m]
    by_cases hm : 0 < m
    · have ih := bestTo_cut f n hn m hm
      generalize bestTo (fun j => f (n + j)) m = q at *
      rw [ih]
      by_cases h1 : f (bestTo f n) < f (n + q)
      · rw [if_pos h1]
        by_cases h2 : f (n + q) < f (n + m)
        · rw [if_pos h2, if_pos h2, if_pos (by omega)]
        · rw [if_neg h2, if_neg h2, if_pos h1]
      · rw [if_neg h1]
        by_cases h2 : f (n + q) < f (n + m)
        · rw [if_pos h2]
        · rw [if_neg h2, if_neg h1, if_neg (by omega)]
    · have : m = 0 := by omega
      subst this
      have e : bestTo (fun j => f (n + j)) 0 = 0 := rfl
      rw [e]
      simp

end Go.Proofs.Qxb6630529a
