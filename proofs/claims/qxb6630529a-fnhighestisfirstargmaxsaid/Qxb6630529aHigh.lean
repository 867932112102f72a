/-
  SEAT b6630529a: THE WALKS OVER highest (10), ZZhighest (6) AND THE NAIVE SCAN zzRb1FirstArgmax (7): each returns the first index with the greatest score.
-/
import Derived.Test.Qxb6630529aLeaf
import Derived.Deep.OwnRows
namespace Go.Proofs.Qxb6630529a
open Go.RowKit

/-- n numbers of 64 bits lie behind the slice's address a: Z j is the j-th. -/
def RowU (w : World) (a : Option Addr) (n : Nat) (Z : Nat → Int) : Prop := n = 0 ∨ ∃ b off, a = some ⟨b, off, none⟩ ∧ b < w.heap.size ∧ ∀ j, j < n → w.cell? ⟨b, off + j, none⟩ = some (.int .u64 (Z j))
theorem RowU.get {w : World} {a : Option Addr} {n : Nat} {Z : Nat → Int} (h : RowU w a n Z) {k : Nat} (hk : k < n) : ∃ b off, a = some ⟨b, off, none⟩ ∧ w.cell? ⟨b, off + k, none⟩ = some (.int .u64 (Z k)) := by
  rcases h with h | ⟨b, off, ha, _, hc⟩
  · omega
  · exact ⟨b, off, ha, hc k hk⟩
theorem RowU.later {w w' : World} {a : Option Addr} {n : Nat} {Z : Nat → Int} (h : RowU w a n Z) (hb : Below w.heap.size w w') : RowU w' a n Z := by
  rcases h with h | ⟨b, off, ha, hlt, hc⟩
  · exact .inl h
  · exact .inr ⟨b, off, ha, Nat.lt_of_lt_of_le hlt hb.size, fun j hj => (hb.cell (p := ⟨b, off + j, none⟩) hlt).trans (hc j hj)⟩

def sco (k : Int) (Z : Nat → Int) (j : Nat) : Int := scoreU k (Z j)
/-- The best score after k nodes; 0 before the first. -/
def topTo (f : Nat → Int) (k : Nat) : Int := if k = 0 then 0 else f (bestTo f k)
theorem top_yes (f : Nat → Int) (k : Nat) (h : topTo f k < f k) : bestTo f (k + 1) = k ∧ topTo f (k + 1) = f k := by
  have e : bestTo f (k + 1) = k := by
    by_cases hk : k = 0
    · subst hk; exact bestTo_one f
    · rw [topTo, if_neg hk] at h
      rw [bestTo_succ, if_pos h]
  exact ⟨e, by rw [topTo, if_neg (by omega), e]⟩
theorem top_no (f : Nat → Int) (k : Nat) (h : ¬ topTo f k < f k) (h0 : 0 ≤ f 0) : bestTo f (k + 1) = bestTo f k ∧ topTo f (k + 1) = topTo f k := by
  by_cases hk : k = 0
  · subst hk
    have hz : f 0 = 0 := by simp [topTo] at h; omega
    refine ⟨bestTo_one f, ?_⟩
    rw [topTo, if_neg (by omega), bestTo_one, hz]; rfl
  · rw [topTo, if_neg hk] at h
    have e : bestTo f (k + 1) = bestTo f k := by rw [bestTo_succ, if_neg h]
    exact ⟨e, by rw [topTo, if_neg (by omega), e, topTo, if_neg hk]⟩
theorem top_in (k : Int) (Z : Nat → Int) (j : Nat) : InU (topTo (sco k Z) j) := by
  unfold topTo
  split
  · exact ⟨by omega, by omega⟩
  · exact score_in _ _
theorem best_le (f : Nat → Int) (k : Nat) : bestTo f k ≤ k := by
  by_cases h : 0 < k
  · exact Nat.le_of_lt (bestTo_lt f k h)
  · have : k = 0 := by omega
    subst this; exact Nat.le_refl _
theorem nat_in (k : Nat) (h : k ≤ 131072) : InU (k : Int) := ⟨by omega, by omega⟩

set_option maxHeartbeats 1000000 in
theorem naive_calls (a : Option Addr) (n c : Nat) (k : Int) (Z : Nat → Int) (w : World) (hr : RowU w a n Z) (hn : n ≤ 131072) (hk : InU k) (hz : ∀ j, InU (Z j)) :
    Calls Try.prog 7 #[.slice a n c, .int .u64 k] w fun e w' => e = .returned (.int .i64 (bestTo (sco k Z) n)) ∧ w = w' := by
  have HR : Hid (RowU w a n Z) := hr
  have HK : Hid (InU k) := hk
  have HZ : Hid (∀ j, InU (Z j)) := hz
  clear hr hk hz
  by_cases h0 : n = 0
  · subst h0
    go_enter Try.func7, Try.ntmps7
    go_wp2
    go_ret
    exact ⟨rfl, rfl⟩
  · have h0' : ((n : Int) == 0) = false := beq_eq_false_iff_ne.2 (by omega)
    obtain ⟨b, off, rfl, hc0⟩ := HR.out.get (k := 0) (by omega)
    rw [Nat.add_zero] at hc0
    have hpos : (0 : Int) < (n : Int) := by omega
    go_enter Try.func7, Try.ntmps7
    go_wp2_with fail
    refine (score_calls k (Z 0) w HK.out (HZ.out 0)).mono ?_
    rintro e w' ⟨rfl, rfl⟩
    go_wp2
    clear hc0
    go_loop [5, 6, 7] (fun t s i => ∃ q : Nat, 1 ≤ q ∧ q ≤ n ∧ i = .int .i64 q ∧ t = .int .i64 (bestTo (sco k Z) q) ∧ s = .int .u64 (sco k Z (bestTo (sco k Z) q))) (fun _ _ i => n - (intOf i).toNat)
    case atStart => exact ⟨1, by omega, by omega, rfl, by rw [bestTo_one]; rfl, by rw [bestTo_one]; rfl⟩
    case round =>
      obtain ⟨q, hq1, hq, rfl, rfl, rfl⟩ := hrel
      by_cases hlt : q < n
      · obtain ⟨b', off', hbo, hc⟩ := HR.out.get hlt
        obtain ⟨rfl, rfl⟩ : b = b' ∧ off = off' := by simpa using hbo
        clear hbo
        have HS : Hid _ := bestTo_succ (sco k Z) q
        have hbl := best_le (sco k Z) q
        have hlt' : (q : Int) < (n : Int) := by omega
        generalize hB : bestTo (sco k Z) q = B at *
        clear hB
        go_wp2_with fail
        refine (score_calls k (Z q) w HK.out (HZ.out q)).mono ?_
        rintro e w' ⟨rfl, rfl⟩
        have HF : Hid (sco k Z q = scoreU k (Z q)) := rfl
        generalize hX : scoreU k (Z q) = X at *
        generalize hY : sco k Z B = Y at *
        clear hX
        have HY : Hid (sco k Z B = Y) := hY
        clear hY
        by_cases hyx : Y < X
        · go_wp2
          go_round
          case rel => exact ⟨q + 1, by omega, by omega, by go_num, by rw [HS.out, HF.out, if_pos hyx], by rw [HS.out, HF.out, if_pos hyx, HF.out]⟩
          case measure => simp [intOf]; omega
        · go_wp2
          go_round
          case rel => exact ⟨q + 1, by omega, by omega, by go_num, by rw [HS.out, HF.out, if_neg (by omega)], by rw [HS.out, HF.out, if_neg (by omega), HY.out]⟩
          case measure => simp [intOf]; omega
      · obtain rfl : q = n := by omega
        go_wp2
        go_ret
        exact ⟨rfl, rfl⟩

theorem ret_nat {a b : Nat} (h : a = b) : Ending.returned (.int .i64 (a : Int)) = .returned (.int .i64 (b : Int)) := by rw [h]
theorem ones : IntKind.u64.wrap (-1) = 18446744073709551615 := by rw [IntKind.wrap_u64]; rfl
theorem yes_best {B q : Nat} (hB : B ≤ 131072) (hq : q ≤ 131072) : bits .xor .u64 (B : Int) (bits .and .u64 (bits .xor .u64 (B : Int) (q : Int)) (IntKind.u64.wrap (-1))) = q := by
  rw [ones]; exact pick_yes (nat_in B hB) (nat_in q hq)
theorem yes_top {S X : Int} (hS : InU S) (hX : InU X) : bits .xor .u64 S (bits .and .u64 (bits .xor .u64 S X) (IntKind.u64.wrap (-1))) = X := by
  rw [ones]; exact pick_yes hS hX

set_option maxHeartbeats 2000000 in
theorem high_calls (a : Option Addr) (n c : Nat) (k : Int) (Z : Nat → Int) (w : World) (hr : RowU w a n Z) (hn : n ≤ 131072) (hnc : n ≤ c) (hk : InU k) (hz : ∀ j, InU (Z j)) :
    Calls Try.prog 10 #[.slice a n c, .int .u64 k] w fun e w' => e = .returned (.int .i64 (bestTo (sco k Z) n)) ∧ w = w' := by
  have HR : Hid (RowU w a n Z) := hr
  have HK : Hid (InU k) := hk
  have HZ : Hid (∀ j, InU (Z j)) := hz
  have hk0 := hk.1
  have hk1 := hk.2
  clear hr hk hz
  go_enter Try.func10, Try.ntmps10
  by_cases h8 : n ≤ 8
  · go_wp2
    go_loop [5, 6, 25] (fun t s i => ∃ q : Nat, q ≤ n ∧ i = .int .i64 q ∧ t = .int .u64 (bestTo (sco k Z) q) ∧ s = .int .u64 (topTo (sco k Z) q)) (fun _ _ i => n - (intOf i).toNat)
    case atStart => exact ⟨0, by omega, rfl, rfl, rfl⟩
    case round =>
      obtain ⟨q, hq, rfl, rfl, rfl⟩ := hrel
      by_cases hlt : q < n
      · obtain ⟨b, off, rfl, hc⟩ := HR.out.get (k := q) (by omega)
        have hlt' : (q : Int) < (n : Int) := by omega
        have hbl := best_le (sco k Z) q
        have HT : Hid (InU (topTo (sco k Z) q)) := top_in k Z q
        have HX : Hid (InU (scoreU k (Z q))) := score_in _ _
        have HY : Hid (topTo (sco k Z) q < sco k Z q → bestTo (sco k Z) (q + 1) = q ∧ topTo (sco k Z) (q + 1) = sco k Z q) := top_yes _ _
        have HN : Hid (sco k Z q ≤ topTo (sco k Z) q → bestTo (sco k Z) (q + 1) = bestTo (sco k Z) q ∧ topTo (sco k Z) (q + 1) = topTo (sco k Z) q) := fun h => top_no _ _ (Int.not_lt.2 h) (score_in _ _).1
        have HF : Hid (sco k Z q = scoreU k (Z q)) := rfl
        generalize bestTo (sco k Z) q = B at *
        generalize topTo (sco k Z) q = S at *
        go_wp2_with fail
        refine (pair_calls k (Z q) w HK.out (HZ.out q)).mono ?_
        rintro e w' ⟨rfl, rfl⟩
        generalize scoreU k (Z q) = X at *
        have hS0 := HT.out.1
        have hS1 := HT.out.2
        have hX0 := HX.out.1
        have hX1 := HX.out.2
        by_cases hyx : S < X
        · obtain ⟨d, hsub⟩ := sub_lt HT.out HX.out hyx
          go_wp2
          go_round
          case rel => exact ⟨q + 1, by omega, by go_num, by rw [yes_best (by omega) (by omega), (HY.out (by rw [HF.out]; exact hyx)).1], by rw [yes_top HT.out HX.out, (HY.out (by rw [HF.out]; exact hyx)).2, HF.out]⟩
          case measure => simp [intOf]; omega
        · obtain ⟨d, hsub⟩ := sub_ge HT.out HX.out hyx
          go_wp2
          go_round
          case rel => exact ⟨q + 1, by omega, by go_num, by rw [pick_no (nat_in B (by omega)) (nat_in q (by omega)), (HN.out (by rw [HF.out]; omega)).1], by rw [pick_no HT.out HX.out, (HN.out (by rw [HF.out]; omega)).2]⟩
          case measure => simp [intOf]; omega
      · obtain rfl : q = n := by omega
        have hbl := best_le (sco k Z) q
        generalize hB : bestTo (sco k Z) q = B at *
        have HE : Hid (B = bestTo (sco k Z) q) := hB.symm
        clear hB
        have HT : Hid (InU (topTo (sco k Z) q)) := top_in k Z q
        generalize topTo (sco k Z) q = S at *
        have hS0 := HT.out.1
        have hS1 := HT.out.2
        go_wp2
        go_loop [5, 15] (fun t i => t = .int .u64 B ∧ i = .int .i64 q) (fun _ _ => 0)
        case atStart => exact ⟨rfl, rfl⟩
        case round =>
          obtain ⟨rfl, rfl⟩ := hrel
          go_wp2
          go_ret
          exact ⟨ret_nat HE.out, rfl⟩
  · have h8' : (8 : Int) < (n : Int) := by omega
    go_wp2
    go_loop [5, 6, 25] (fun t s i => ∃ q : Nat, q ≤ 8 ∧ i = .int .i64 q ∧ t = .int .u64 (bestTo (sco k Z) q) ∧ s = .int .u64 (topTo (sco k Z) q)) (fun _ _ i => 8 - (intOf i).toNat)
    case atStart => exact ⟨0, by omega, rfl, rfl, rfl⟩
    case round =>
      obtain ⟨q, hq, rfl, rfl, rfl⟩ := hrel
      by_cases hlt : q < 8
      · obtain ⟨b, off, rfl, hc⟩ := HR.out.get (k := q) (by omega)
        have hlt' : (q : Int) < 8 := by omega
        have hbl := best_le (sco k Z) q
        have HT : Hid (InU (topTo (sco k Z) q)) := top_in k Z q
        have HX : Hid (InU (scoreU k (Z q))) := score_in _ _
        have HY : Hid (topTo (sco k Z) q < sco k Z q → bestTo (sco k Z) (q + 1) = q ∧ topTo (sco k Z) (q + 1) = sco k Z q) := top_yes _ _
        have HN : Hid (sco k Z q ≤ topTo (sco k Z) q → bestTo (sco k Z) (q + 1) = bestTo (sco k Z) q ∧ topTo (sco k Z) (q + 1) = topTo (sco k Z) q) := fun h => top_no _ _ (Int.not_lt.2 h) (score_in _ _).1
        have HF : Hid (sco k Z q = scoreU k (Z q)) := rfl
        generalize bestTo (sco k Z) q = B at *
        generalize topTo (sco k Z) q = S at *
        go_wp2_with fail
        refine (pair_calls k (Z q) w HK.out (HZ.out q)).mono ?_
        rintro e w' ⟨rfl, rfl⟩
        generalize scoreU k (Z q) = X at *
        have hS0 := HT.out.1
        have hS1 := HT.out.2
        have hX0 := HX.out.1
        have hX1 := HX.out.2
        by_cases hyx : S < X
        · obtain ⟨d, hsub⟩ := sub_lt HT.out HX.out hyx
          go_wp2
          go_round
          case rel => exact ⟨q + 1, by omega, by go_num, by rw [yes_best (by omega) (by omega), (HY.out (by rw [HF.out]; exact hyx)).1], by rw [yes_top HT.out HX.out, (HY.out (by rw [HF.out]; exact hyx)).2, HF.out]⟩
          case measure => simp [intOf]; omega
        · obtain ⟨d, hsub⟩ := sub_ge HT.out HX.out hyx
          go_wp2
          go_round
          case rel => exact ⟨q + 1, by omega, by go_num, by rw [pick_no (nat_in B (by omega)) (nat_in q (by omega)), (HN.out (by rw [HF.out]; omega)).1], by rw [pick_no HT.out HX.out, (HN.out (by rw [HF.out]; omega)).2]⟩
          case measure => simp [intOf]; omega
      · obtain rfl : q = 8 := by omega
        have hT8 := top_in k Z 8
        have hS0 := hT8.1
        have hS1 := hT8.2
        clear hT8
        go_wp2
        clear hS0 hS1
        go_loop [5, 6, 14, 15] (fun t s fl i => ∃ q : Nat, 8 ≤ q ∧ q ≤ n ∧ i = .int .i64 q ∧ t = .int .u64 (bestTo (sco k Z) q) ∧ s = .int .u64 (topTo (sco k Z) q) ∧ fl = .int .u64 (bits .andNot .u64 (topTo (sco k Z) q) 8589934591)) (fun _ _ _ i => n - (intOf i).toNat)
        case atStart => exact ⟨8, by omega, by omega, rfl, rfl, rfl, rfl⟩
        case round =>
          obtain ⟨q, hq8, hq, rfl, rfl, rfl, rfl⟩ := hrel
          by_cases hlt : q < n
          · obtain ⟨b, off, rfl, hc⟩ := HR.out.get (k := q) (by omega)
            have hlt' : (q : Int) < (n : Int) := by omega
            have hbl := best_le (sco k Z) q
            have HT : Hid (InU (topTo (sco k Z) q)) := top_in k Z q
            have HFl : Hid (InU (floorU (topTo (sco k Z) q))) := floor_in HT.out
            have HBS : Hid (bestTo (sco k Z) q = bestTo (sco k Z) q ∧ topTo (sco k Z) q = topTo (sco k Z) q) := ⟨rfl, rfl⟩
            generalize hB : bestTo (sco k Z) q = B at *
            generalize hS : topTo (sco k Z) q = S at *
            have HBS' : Hid (bestTo (sco k Z) q = B ∧ topTo (sco k Z) q = S) := ⟨hB, hS⟩
            clear hB hS HBS
            have HFE : Hid (bits .andNot .u64 S 8589934591 = floorU S) := rfl
            generalize bits .andNot .u64 S 8589934591 = FL at *
            have HXq : Hid (InU (bits .xor .u64 k (Z q))) := xor_in HK.out (HZ.out q)
            go_wp2_with fail
            refine (body_calls _ w HXq.out).mono ?_
            rintro e w' ⟨rfl, rfl⟩
            go_wp2
            clear hc
            go_loop [15, 16] (fun i bd => ∃ j : Nat, q ≤ j ∧ j < n ∧ i = .int .i64 j ∧ bd = .int .u64 (bodyU (bits .xor .u64 k (Z j))) ∧ Hid (bestTo (sco k Z) j = B ∧ topTo (sco k Z) j = S)) (fun i _ => n - (intOf i).toNat)
            case atStart => exact ⟨q, Nat.le_refl _, hlt, rfl, rfl, HBS'⟩
            case round =>
              obtain ⟨j, hqj, hjn, rfl, rfl, HJ⟩ := hrel
              clear HBS'
              have hbj := best_le (sco k Z) j
              have HY : Hid (topTo (sco k Z) j < sco k Z j → bestTo (sco k Z) (j + 1) = j ∧ topTo (sco k Z) (j + 1) = sco k Z j) := top_yes _ _
              have HN : Hid (sco k Z j ≤ topTo (sco k Z) j → bestTo (sco k Z) (j + 1) = bestTo (sco k Z) j ∧ topTo (sco k Z) (j + 1) = topTo (sco k Z) j) := fun h => top_no _ _ (Int.not_lt.2 h) (score_in _ _).1
              rw [HJ.out.1] at hbj
              have HBi : Hid (InU (bodyU (bits .xor .u64 k (Z j)))) := body_in _
              have HF : Hid (sco k Z j = tailU (bodyU (bits .xor .u64 k (Z j)))) := rfl
              generalize bodyU (bits .xor .u64 k (Z j)) = Y at *
              by_cases hfl : Y < FL
              · have HL : Hid (bestTo (sco k Z) (j + 1) = B ∧ topTo (sco k Z) (j + 1) = S) := by
                  have hlow : tailU Y < S := skip_low HBi.out HT.out (by rw [← HFE.out]; exact hfl)
                  have h := HN.out (by rw [HF.out, HJ.out.2]; omega)
                  rw [HJ.out.1, HJ.out.2] at h
                  exact h
                by_cases hjl : j + 1 = n
                · have hj1 : ((j : Int) + 1 == (n : Int)) = true := beq_iff_eq.2 (by omega)
                  have HE : Hid (B = bestTo (sco k Z) n) := by show _ = _; rw [← hjl]; exact HL.out.1.symm
                  clear hjl
                  go_wp2
                  go_ret
                  exact ⟨ret_nat HE.out, rfl⟩
                · have hj1 : ((j : Int) + 1 == (n : Int)) = false := beq_eq_false_iff_ne.2 (by omega)
                  have hj2 : (j : Int) + 1 < (n : Int) := by omega
                  obtain ⟨b', off', hbo, hc⟩ := HR.out.get (k := j + 1) (by omega)
                  obtain ⟨rfl, rfl⟩ : b = b' ∧ off = off' := by simpa using hbo
                  clear hbo
                  have HXj : Hid (InU (bits .xor .u64 k (Z (j + 1)))) := xor_in HK.out (HZ.out (j + 1))
                  go_wp2_with fail
                  refine (body_calls _ w HXj.out).mono ?_
                  rintro e w' ⟨rfl, rfl⟩
                  go_wp2
                  go_round
                  case rel => exact ⟨j + 1, by omega, by omega, by go_num, rfl, HL⟩
                  case measure => simp [intOf]; omega
              · go_wp2_with fail
                refine (tail_calls Y w HBi.out).mono ?_
                rintro e w' ⟨rfl, rfl⟩
                have HXi : Hid (InU (tailU Y)) := tail_in HBi.out
                generalize tailU Y = X at *
                have hX0 := HXi.out.1
                have hX1 := HXi.out.2
                by_cases hyx : S < X
                · have HL : Hid (bestTo (sco k Z) (j + 1) = j ∧ topTo (sco k Z) (j + 1) = X) := by
                    have h := HY.out (by rw [HF.out, HJ.out.2]; exact hyx)
                    rw [HF.out] at h
                    exact h
                  go_wp2
                  go_round
                  case rel => exact ⟨j + 1, by omega, by omega, by go_num, by rw [HL.out.1], by rw [HL.out.2], by rw [HL.out.2]⟩
                  case measure => simp [intOf]; omega
                · have HL : Hid (bestTo (sco k Z) (j + 1) = B ∧ topTo (sco k Z) (j + 1) = S) := by
                    have h := HN.out (by rw [HF.out, HJ.out.2]; omega)
                    rw [HJ.out.1, HJ.out.2] at h
                    exact h
                  go_wp2
                  go_round
                  case rel => exact ⟨j + 1, by omega, by omega, by go_num, by rw [HL.out.1], by rw [HL.out.2], by rw [HL.out.2, HFE.out]; rfl⟩
                  case measure => simp [intOf]; omega
          · obtain rfl : q = n := by omega
            have hbl := best_le (sco k Z) q
            generalize hB : bestTo (sco k Z) q = B at *
            have HE : Hid (B = bestTo (sco k Z) q) := hB.symm
            clear hB
            go_wp2
            go_ret
            exact ⟨ret_nat HE.out, rfl⟩

end Go.Proofs.Qxb6630529a
