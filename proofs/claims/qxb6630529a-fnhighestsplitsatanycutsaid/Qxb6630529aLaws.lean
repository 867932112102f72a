/-
  SEAT b6630529a: THE WALKS OVER THE TWO LAWS: FnHighestIsFirstArgmax (3), FnHighestSplitsAtAnyCut (4).
-/
import Derived.Test.Qxb6630529aJoin
namespace Go.Proofs.Qxb6630529a
open Go.RowKit

set_option maxHeartbeats 1000000 in
set_option maxRecDepth 100000 in
theorem argmax_walk (a : Option Addr) (n c : Nat) (k : Int) (Z : Nat → Int) (w : World) (hr : RowU w a n Z) (hnn : a = none → n = 0 ∧ c = 0) (hk : InU k) (hz : ∀ j, InU (Z j)) (hnb : n ≤ 9223372036854775807) :
    Calls Try.prog 3 #[.slice a n c, .int .u64 k] w fun e w' => e = .returned (.bool true) ∧ Below w.heap.size w w' := by
  have HR : Hid (RowU w a n Z) := hr
  have HNN : Hid (a = none → n = 0 ∧ c = 0) := hnn
  have HK : Hid (InU k) := hk
  have HZ : Hid (∀ j, InU (Z j)) := hz
  clear hr hnn hk hz
  have hnil := fun w a n c => run_neq_slice_nil_any (P := Try.prog) w 22 23 a n c 0 0 Try.underlying22
  go_enter Try.func3, Try.ntmps3
  go_wp2_with fail
  refine (bytes5 _ _ _ _ _).mono ?_
  rintro e w' ⟨⟨v, rfl⟩, rfl⟩
  cases v with
  | false =>
    go_wp2
    go_ret
    exact ⟨rfl, Below.refl _ _⟩
  | true =>
  by_cases h1 : n ≤ 131072
  case neg =>
    have h1' : (131072 : Int) < (n : Int) := by omega
    go_wp2
    go_ret
    exact ⟨rfl, Below.refl _ _⟩
  have h1' : ¬ (131072 : Int) < (n : Int) := by omega
  go_upto_if 15 with fail
  go_cut [0] (fun s wc => ∃ a', s = .slice a' n n ∧ Hid (RowU wc a' n Z) ∧ Hid (Below w.heap.size w wc))
  case first =>
    cases a with
    | none =>
      obtain ⟨rfl, rfl⟩ := HNN.out rfl
      go_wp2
      go_meet
      case rel => exact ⟨none, rfl, HR, Below.refl _ _⟩
    | some x =>
      have hmk := run_make_row' (P := Try.prog) 22 23 (.int .u64 0) 8 Try.underlying22 Try.info23 rfl .i64 .i64 n (by omega) (by omega)
      rw [made_zero] at hmk
      obtain ⟨w2, hcp, hs2, hb2⟩ := copy_run (c := c) HR.out
      have HS2 : Hid (RowU w2 (some ⟨w.heap.size, 0, none⟩) n Z) := hs2
      have HB2 : Hid (Below w.heap.size w w2) := hb2
      clear hs2 hb2
      go_wp2
      go_meet
      case rel => exact ⟨_, rfl, HS2, HB2⟩
  case rest =>
    obtain ⟨a', rfl, HRc, HB⟩ := hcut
    clear HR hnil
    go_wp2_with fail
    refine (zz_calls a' n n k Z wc HRc.out h1 (Nat.le_refl _) HK.out HZ.out).mono ?_
    rintro e w' ⟨rfl, rfl⟩
    go_wp2_with fail
    refine (naive_calls a' n n k Z wc HRc.out h1 HK.out HZ.out).mono ?_
    rintro e w' ⟨rfl, rfl⟩
    generalize bestTo (sco k Z) n = B at *
    go_wp2
    go_ret
    exact ⟨rfl, HB⟩

/-- An append whose run is known, as a law for the walk. -/
theorem wpList_append_eq {P : Program} {w w' : World} {ops : Array Oper} {rest : List Oper} {o : Oper} {a : Act} {Q : Exit → Act → World → Prop}
    (hg : o.guard = none) (s x : Operand) (hop : o.op = Op.call { callee := Callee.builtin Builtin.append, args := #[s, x], argTypes := #[22, 22] }) (hty : o.type = 22)
    (v1 v2 v3 : Value) (hs : a.eval s = v1) (hx : a.eval x = v2) (hrun : (Builtin.append_ #[22, 22] 22 #[v1, v2]).run P w = .ok v3 w')
    (hK : wpList P ops Q rest (a.put o.dst v3) w') : wpList P ops Q (o :: rest) a w := by
  refine wpList_plain hg fun K hK' => ?_
  unfold Oper.wp
  simp [execOp, hop, resolve, invoke, builtin, hs, hx, hty, hrun, Result.andThen]
  exact hK' _ _ hK

set_option maxHeartbeats 2000000 in
set_option maxRecDepth 100000 in
theorem split_walk (a b : Option Addr) (n c m d : Nat) (k : Int) (Za Zb : Nat → Int) (w : World) (ha : RowU w a n Za) (hb : RowU w b m Zb) (han : a = none → n = 0 ∧ c = 0) (hbn : b = none → m = 0 ∧ d = 0) (hk : InU k) (hza : ∀ j, InU (Za j)) (hzb : ∀ j, InU (Zb j))
    (hnb : n ≤ 9223372036854775807) (hmb : m ≤ 9223372036854775807) :
    Calls Try.prog 4 #[.slice a n c, .slice b m d, .int .u64 k] w fun e w' => e = .returned (.bool true) ∧ Below w.heap.size w w' := by
  have HA : Hid (RowU w a n Za) := ha
  have HB : Hid (RowU w b m Zb) := hb
  have HAN : Hid (a = none → n = 0 ∧ c = 0) := han
  have HBN : Hid (b = none → m = 0 ∧ d = 0) := hbn
  have HK : Hid (InU k) := hk
  have HZA : Hid (∀ j, InU (Za j)) := hza
  have HZB : Hid (∀ j, InU (Zb j)) := hzb
  clear ha hb han hbn hk hza hzb
  have hnil := fun w a n c => run_neq_slice_nil_any (P := Try.prog) w 22 23 a n c 0 0 Try.underlying22
  go_enter Try.func4, Try.ntmps4
  go_wp2_with fail
  refine (bytes8 _ _ _ _ _ _ _ _).mono ?_
  rintro e w' ⟨⟨v, rfl⟩, rfl⟩
  cases v with
  | false =>
    go_wp2
    go_ret
    exact ⟨rfl, Below.refl _ _⟩
  | true =>
  by_cases h1 : n ≤ 131072
  case neg =>
    have h1' : (131072 : Int) < (n : Int) := by omega
    go_wp2
    go_ret
    exact ⟨rfl, Below.refl _ _⟩
  have h1' : ¬ (131072 : Int) < (n : Int) := by omega
  by_cases h2 : n + m ≤ 131072
  case neg =>
    have h2' : (131072 : Int) - (n : Int) < (m : Int) := by omega
    go_wp2
    go_ret
    exact ⟨rfl, Below.refl _ _⟩
  have h2' : ¬ (131072 : Int) - (n : Int) < (m : Int) := by omega
  go_upto_if 29 with fail
  go_cut [0] (fun s wc => ∃ a', s = .slice a' n n ∧ Hid (a' = none → n = 0) ∧ Hid (RowU wc a' n Za) ∧ Hid (Below w.heap.size w wc))
  case first =>
    cases a with
    | none =>
      obtain ⟨rfl, rfl⟩ := HAN.out rfl
      go_wp2
      go_meet
      case rel => exact ⟨none, rfl, by simp [Hid], HA, Below.refl _ _⟩
    | some x =>
      have hmk := run_make_row' (P := Try.prog) 22 23 (.int .u64 0) 8 Try.underlying22 Try.info23 rfl .i64 .i64 n (by omega) (by omega)
      rw [made_zero] at hmk
      obtain ⟨w2, hcp, hs2, hb2⟩ := copy_run (c := c) HA.out
      have HS2 : Hid (RowU w2 (some ⟨w.heap.size, 0, none⟩) n Za) := hs2
      have HB2 : Hid (Below w.heap.size w w2) := hb2
      clear hs2 hb2
      go_wp2
      go_meet
      case rel => exact ⟨_, rfl, (by intro h; cases h), HS2, HB2⟩
  case rest =>
    obtain ⟨a', rfl, HAN', HA1, HW1⟩ := hcut
    have HB1 : Hid (RowU wc b m Zb) := HB.out.later HW1.out
    clear HA HB HAN
    go_upto_if 38 with fail
    go_cut [1] (fun s wd => ∃ b', s = .slice b' m m ∧ Hid (b' = none → m = 0) ∧ Hid (RowU wd b' m Zb) ∧ Hid (Below wc.heap.size wc wd))
    case first =>
      cases b with
      | none =>
        obtain ⟨rfl, rfl⟩ := HBN.out rfl
        go_wp2
        go_meet
        case rel => exact ⟨none, rfl, by simp [Hid], HB1, Below.refl _ _⟩
      | some x =>
        have hmk := run_make_row' (P := Try.prog) 22 23 (.int .u64 0) 8 Try.underlying22 Try.info23 rfl .i64 .i64 m (by omega) (by omega)
        rw [made_zero] at hmk
        obtain ⟨w2, hcp, hs2, hb2⟩ := copy_run (c := d) HB1.out
        have HS2 : Hid (RowU w2 (some ⟨wc.heap.size, 0, none⟩) m Zb) := hs2
        have HB2 : Hid (Below wc.heap.size wc w2) := hb2
        clear hs2 hb2
        go_wp2
        go_meet
        case rel => exact ⟨_, rfl, (by intro h; cases h), HS2, HB2⟩
    case rest =>
      obtain ⟨b', rfl, HBN', HB2, HW2⟩ := hcut
      have HA2 : Hid (RowU wc a' n Za) := HA1.out.later HW2.out
      have HW3 : Hid (Below w.heap.size w wc) := HW1.out.trans (HW2.out.mono HW1.out.size)
      clear HA1 HB1 HW1 HW2 hnil
      obtain ⟨w1, w2, w3, r1, r2, r3, rJ, bJ⟩ := join_run HA2.out HB2.out HAN'.out HBN'.out h2
      have HJ : Hid (RowU w3 (some ⟨wc.heap.size, 0, none⟩) (n + m) (joinU n Za Zb)) := rJ
      have HA3 : Hid (RowU w3 a' n Za) := HA2.out.later bJ
      have HB3 : Hid (RowU w3 b' m Zb) := HB2.out.later bJ
      have HW4 : Hid (Below w.heap.size w w3) := HW3.out.trans (bJ.mono HW3.out.size)
      clear rJ bJ HA2 HB2 HW3
      go_wp2_with (first | (at_builtin; refine wpList_append_eq rfl (.tmp 52) (.tmp 53) rfl rfl _ _ _ rfl rfl r2 ?_) | (at_builtin; refine wpList_append_eq rfl (.tmp 55) (.tmp 56) rfl rfl _ _ _ rfl rfl r3 ?_))
      refine (zz_calls _ (n + m) (n + m) k (joinU n Za Zb) w3 HJ.out h2 (Nat.le_refl _) HK.out (join_in HZA.out HZB.out)).mono ?_
      rintro e w' ⟨rfl, rfl⟩
      clear r1 r2 r3
      go_wp2_with fail
      refine (zz_calls a' n n k Za w3 HA3.out h1 (Nat.le_refl _) HK.out HZA.out).mono ?_
      rintro e w' ⟨rfl, rfl⟩
      go_wp2_with fail
      refine (zz_calls b' m m k Zb w3 HB3.out (by omega) (Nat.le_refl _) HK.out HZB.out).mono ?_
      rintro e w' ⟨rfl, rfl⟩
      by_cases hn0 : n = 0
      case pos =>
        subst hn0
        have HE : Hid _ := best_zero k m Za Zb
        have hE : (((bestTo (sco k (joinU 0 Za Zb)) (0 + m) : Nat) : Int) == ((bestTo (sco k Zb) m : Nat) : Int)) = true := by rw [HE.out]; exact beq_self_eq_true _
        generalize bestTo (sco k (joinU 0 Za Zb)) (0 + m) = G at *
        generalize bestTo (sco k Za) 0 = A at *
        generalize bestTo (sco k Zb) m = B at *
        go_wp2
        go_ret
        exact ⟨rfl, HW4⟩
      have hn0' : ((n : Int) == 0) = false := beq_eq_false_iff_ne.2 (by omega)
      by_cases hm0 : m = 0
      case pos =>
        subst hm0
        have hE : (((bestTo (sco k (joinU n Za Zb)) (n + 0) : Nat) : Int) == ((bestTo (sco k Za) n : Nat) : Int)) = true := by rw [Nat.add_zero, best_left]; exact beq_self_eq_true _
        generalize bestTo (sco k (joinU n Za Zb)) (n + 0) = G at *
        generalize bestTo (sco k Za) n = A at *
        generalize bestTo (sco k Zb) 0 = B at *
        go_wp2
        go_ret
        exact ⟨rfl, HW4⟩
      have hm0' : ((m : Int) == 0) = false := beq_eq_false_iff_ne.2 (by omega)
      have hA := bestTo_lt (sco k Za) n (by omega)
      have hB := bestTo_lt (sco k Zb) m (by omega)
      have HE : Hid _ := best_join k n m Za Zb (by omega) (by omega)
      have HSA : Hid (sco k Za (bestTo (sco k Za) n) = scoreU k (Za (bestTo (sco k Za) n))) := rfl
      have HSB : Hid (sco k Zb (bestTo (sco k Zb) m) = scoreU k (Zb (bestTo (sco k Zb) m))) := rfl
      generalize bestTo (sco k (joinU n Za Zb)) (n + m) = G at *
      generalize bestTo (sco k Za) n = A at *
      generalize bestTo (sco k Zb) m = B at *
      obtain ⟨ba, oa, rfl, hca⟩ := HA3.out.get hA
      obtain ⟨bb, ob, rfl, hcb⟩ := HB3.out.get hB
      have hA' : (A : Int) < (n : Int) := by omega
      have hB' : (B : Int) < (m : Int) := by omega
      have HPA : Hid (InU (Za A)) := HZA.out A
      have HPB : Hid (InU (Zb B)) := HZB.out B
      rw [HSA.out, HSB.out] at HE
      generalize Za A = xa at *
      generalize Zb B = xb at *
      clear HSA HSB
      have QA : Hid (∀ w', Calls Try.prog 9 #[.int .u64 k, .int .u64 xa] w' fun e w'' => e = .returned (.int .u64 (scoreU k xa)) ∧ w'' = w') := fun w' => (score_calls k xa w' HK.out HPA.out).mono fun e w'' h => ⟨h.1, h.2.symm⟩
      have QB : Hid (∀ w', Calls Try.prog 9 #[.int .u64 k, .int .u64 xb] w' fun e w'' => e = .returned (.int .u64 (scoreU k xb)) ∧ w'' = w') := fun w' => (score_calls k xb w' HK.out HPB.out).mono fun e w'' h => ⟨h.1, h.2.symm⟩
      generalize scoreU k xa = sa at *
      generalize scoreU k xb = sb at *
      by_cases hab : sa < sb
      · have hG : ((G : Int) == (n : Int) + (B : Int)) = true := beq_iff_eq.2 (by have := HE.out; rw [if_pos hab] at this; omega)
        go_wp2
        go_quiet ((first | (go_at_call_of 9 (Value.int IntKind.u64 xb); exact Calls.quiet_of_same (QB.out _)) | (go_at_call_of 9 (Value.int IntKind.u64 xa); exact Calls.quiet_of_same (QA.out _))))
        go_wp2
        go_ret
        exact ⟨rfl, ⟨HW4.out.os, HW4.out.tape, HW4.out.output, HW4.out.size, HW4.out.block⟩⟩
      · have hG : ((G : Int) == (A : Int)) = true := beq_iff_eq.2 (by have := HE.out; rw [if_neg hab] at this; omega)
        go_wp2
        go_quiet ((first | (go_at_call_of 9 (Value.int IntKind.u64 xb); exact Calls.quiet_of_same (QB.out _)) | (go_at_call_of 9 (Value.int IntKind.u64 xa); exact Calls.quiet_of_same (QA.out _))))
        go_wp2
        go_ret
        exact ⟨rfl, ⟨HW4.out.os, HW4.out.tape, HW4.out.output, HW4.out.size, HW4.out.block⟩⟩

end Go.Proofs.Qxb6630529a
