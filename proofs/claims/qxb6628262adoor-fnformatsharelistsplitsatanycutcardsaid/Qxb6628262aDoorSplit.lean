/-
  SEAT b6628262aD: THE WALK OVER 'FnFormatShareListSplitsAtAnyCut' (function 3).
-/
import Derived.Test.Qxb6628262aDoorInj
import Derived.Test.Qxb6628262aDoorDec
import Derived.Deep.RegionWith
namespace Go.Proofs.Qxb6628262aDoor
open Go.RowKit Go.Lib

theorem SliceIs.take {w : World} {a : Option Addr} {zs : List Int} (h : SliceIs w a zs) (k : Nat) : SliceIs w a (zs.take k) := by
  rcases h with rfl | ⟨b, off, ha, hlt, hz⟩
  · exact .inl (by simp)
  · refine .inr ⟨b, off, ha, hlt, fun j hj => ?_⟩
    have hj' : j < k ∧ j < zs.length := by rw [List.length_take] at hj; omega
    rw [hz j hj'.2, List.getD_eq_getElem?_getD, List.getD_eq_getElem?_getD, List.getElem?_take, if_pos hj'.1]
theorem SliceIs.drop {w : World} {b off : Nat} {zs : List Int} (h : SliceIs w (some ⟨b, off, none⟩) zs) (k : Nat) : SliceIs w (some ⟨b, off + k, none⟩) (zs.drop k) := by
  rcases h with rfl | ⟨b', off', ha, hlt, hz⟩
  · exact .inl (by simp)
  · obtain ⟨rfl, rfl⟩ : b = b' ∧ off = off' := by simpa using ha
    refine .inr ⟨b, off + k, rfl, hlt, fun j hj => ?_⟩
    have hj' : k + j < zs.length := by rw [List.length_drop] at hj; omega
    rw [Nat.add_assoc, hz (k + j) hj', List.getD_eq_getElem?_getD, List.getD_eq_getElem?_getD, List.getElem?_drop]
theorem InRange.take {zs : List Int} (h : InRange zs) (k : Nat) : InRange (zs.take k) := fun z hz => h z (List.mem_of_mem_take hz)
theorem InRange.drop {zs : List Int} (h : InRange zs) (k : Nat) : InRange (zs.drop k) := fun z hz => h z (List.mem_of_mem_drop hz)

theorem cat_list (A B : ByteArray) : (A ++ B).toList = A.data.toList ++ B.data.toList := by
  rw [Lib.toList_data, ByteArray.data_append]; simp
theorem mk_cat (l m : List UInt8) : ((⟨l.toArray⟩ : ByteArray) ++ ⟨m.toArray⟩).toList = l ++ m := by rw [cat_list]
theorem mk_cat3 (l m : List UInt8) : ((⟨l.toArray⟩ : ByteArray) ++ ⟨#[44]⟩ ++ ⟨m.toArray⟩).toList = l ++ 44 :: m := by
  rw [cat_list, ByteArray.data_append]; simp
theorem eq_end (zs : List Int) (q : Nat) (h : zs.take q = zs) : (fmtL zs == ((⟨(fmtL (zs.take q)).toArray⟩ : ByteArray) ++ ⟨(fmtL []).toArray⟩).toList) = true := by
  rw [mk_cat, h, fmtL_nil, List.append_nil]; exact beq_self_eq_true _
theorem eq_zero (zs : List Int) : (fmtL zs == ((⟨(fmtL (zs.take 0)).toArray⟩ : ByteArray) ++ ⟨(fmtL (zs.drop 0)).toArray⟩).toList) = true := by
  rw [mk_cat, List.take_zero, List.drop_zero, fmtL_nil, List.nil_append]; exact beq_self_eq_true _
theorem eq_mid (zs : List Int) (q : Nat) (h0 : 0 < q) (h1 : q < zs.length) : (fmtL zs == ((⟨(fmtL (zs.take q)).toArray⟩ : ByteArray) ++ ⟨#[44]⟩ ++ ⟨(fmtL (zs.drop q)).toArray⟩).toList) = true := by
  rw [mk_cat3, ← fmtL_append]
  · rw [List.take_append_drop]; exact beq_self_eq_true _
  · intro h; have := congrArg List.length h; rw [List.length_take, List.length_nil] at this; omega
  · intro h; have := congrArg List.length h; rw [List.length_drop, List.length_nil] at this; omega
theorem one_of_drop (zs : List Int) (q : Nat) (h : q < zs.length) : (zs.drop q).take 1 = [zs.getD q 0] := by
  rw [List.getD_eq_getElem?_getD, List.getElem?_eq_getElem h, List.drop_eq_getElem_cons h]; rfl

theorem cut_one (b off n q : Nat) (h : q < n) (w : World) :
    (Instr.slice 22 (.slice (some ⟨b, off, none⟩) n n) (some (.int .i64 (q : Int))) (some (.int .i64 ((q : Int) + 1))) none).run Tryd.prog w = .ok (.slice (some ⟨b, off + q, none⟩) 1 (n - q)) w := by
  rw [run_slice_lh w 22 (some ⟨b, off, none⟩) n n Tryd.underlying22 .i64 .i64 (q : Int) ((q : Int) + 1) (by omega) (by omega) (by omega)]
  have e : Tryd.prog.elem 22 = 3 := by kernel_rfl
  rw [e, Tryd.sizeOf3]
  have h1 : ¬ (n = q) := by omega
  simp [Result.andThen, sliced, h1, Lib.add_plain]
theorem cut_one_at (b off n q : Nat) (h : q < n) (w : World) :
    (Instr.sliceAt 22 (.slice (some ⟨b, off, none⟩) n n) (some (.int .i64 (q : Int))) (some (.int .i64 ((q : Int) + 1))) none).run Tryd.prog w = .ok (.slice (some ⟨b, off + q, none⟩) 1 (n - q)) w := by
  rw [run_sliceAt_slice _ _ _ _ _ _ Tryd.underlying22]; exact cut_one b off n q h w

set_option maxHeartbeats 1000000 in
set_option maxRecDepth 100000 in
theorem split_walk (hI : ItoaSaid) (hJ : JoinSaid) (a : Option Addr) (n c : Nat) (zs : List Int) (k : Int) (w : World) (hn : n = zs.length) (hnn : a = none → n = 0 ∧ c = 0)
    (ha : SliceIs w a zs) (hra : InRange zs) (htab : Tab w) (hnb : n ≤ 9223372036854775807) :
    Calls Tryd.prog 3 #[.slice a n c, .int .i64 k] w fun e w' => e = .returned (.bool true) ∧ Below w.heap.size w w' := by
  have HA : Hid (SliceIs w a zs) := ha
  have HRA : Hid (InRange zs) := hra
  have HT : Hid (Tab w) := htab
  have HN : Hid (n = zs.length) := hn
  have HNN : Hid (a = none → n = 0 ∧ c = 0) := hnn
  clear ha hra htab hn hnn
  have hnil := fun w a n c => run_neq_slice_nil_any (P := Tryd.prog) w 22 3 a n c 0 0 Tryd.underlying22
  go_enter Tryd.func3, Tryd.ntmps3
  go_wp2_with fail
  refine (bytes5 _ _ _ _ _).mono ?_
  rintro e w' ⟨v, rfl, rfl⟩
  cases v with
  | false =>
    go_wp2
    go_ret
    exact ⟨rfl, Below.refl _ _⟩
  | true =>
  by_cases h1 : n ≤ 131072
  case neg =>
    have h1' : (131072 : Int) < (n : Int) := by omega
    go_wp2
    go_ret
    exact ⟨rfl, Below.refl _ _⟩
  have h1' : ¬ (131072 : Int) < (n : Int) := by omega
  by_cases hk0 : k < 0
  case pos =>
    go_wp2
    go_ret
    exact ⟨rfl, Below.refl _ _⟩
  by_cases hk1 : (n : Int) < k
  case pos =>
    go_wp2
    go_ret
    exact ⟨rfl, Below.refl _ _⟩
  obtain ⟨q, rfl⟩ : ∃ q : Nat, k = (q : Int) := ⟨k.toNat, by omega⟩
  have hq : q ≤ n := by omega
  go_upto_if 26 with fail
  go_cut [0] (fun s wc => ∃ a', s = .slice a' n n ∧ Hid (SliceIs wc a' zs) ∧ Hid (Below w.heap.size w wc))
  case first =>
    cases a with
    | none =>
      obtain ⟨rfl, rfl⟩ := HNN.out rfl
      go_wp2
      go_meet
      case rel => exact ⟨none, rfl, HA, Below.refl _ _⟩
    | some x =>
      have hmk := run_make_row' (P := Tryd.prog) 22 3 (.int .i64 0) 8 Tryd.underlying22 Tryd.info3 rfl .i64 .i64 n (by omega) (by omega)
      rw [made_zero] at hmk
      obtain ⟨w2, hcp, hs2, hb2⟩ := copy_run (c := c) HN.out HA.out
      have HS2 : Hid (SliceIs w2 (some ⟨w.heap.size, 0, none⟩) zs) := hs2
      have HB2 : Hid (Below w.heap.size w w2) := hb2
      clear hs2 hb2
      go_wp2
      go_meet
      case rel => exact ⟨_, rfl, HS2, HB2⟩
  case rest =>
    obtain ⟨a', rfl, HA1, HB1⟩ := hcut
    have HT1 : Hid (Tab wc) := HT.out.later HB1.out
    clear HA HT hnil
    go_wp2_with fail
    refine (fmt_any hI hJ a' n n zs wc HN.out HA1.out HRA.out (by rw [← HN.out]; omega) HT1.out).mono ?_
    rintro e w2 ⟨rfl, hb2⟩
    have HA2 : Hid (SliceIs w2 a' zs) := HA1.out.later hb2
    have HT2 : Hid (Tab w2) := HT1.out.later hb2
    have HW2 : Hid (Below w.heap.size w w2) := HB1.out.trans (hb2.mono HB1.out.size)
    clear HA1 HT1 HB1 hb2
    go_wp2_with fail
    refine (fmt_any hI hJ a' q n (zs.take q) w2 (by rw [List.length_take, ← HN.out]; omega) (HA2.out.take q) (HRA.out.take q) (by rw [List.length_take, ← HN.out]; omega) HT2.out).mono ?_
    rintro e w3 ⟨rfl, hb3⟩
    have HA3 : Hid (SliceIs w3 a' zs) := HA2.out.later hb3
    have HT3 : Hid (Tab w3) := HT2.out.later hb3
    have HW3 : Hid (Below w.heap.size w w3) := HW2.out.trans (hb3.mono HW2.out.size)
    clear HA2 HT2 HW2 hb3
    by_cases hqn : q < n
    case neg =>
      obtain rfl : q = n := by omega
      go_wp2_with fail
      refine (fmt_any hI hJ a' 0 0 [] w3 rfl (.inl rfl) (by intro z hz; cases hz) (by simp) HT3.out).mono ?_
      rintro e w4 ⟨rfl, hb4⟩
      have HW4 : Hid (Below w.heap.size w w4) := HW3.out.trans (hb4.mono HW3.out.size)
      clear HA3 HT3 HW3 hb4
      have heq := eq_end zs q (by rw [HN.out, List.take_length])
      have hl1 : (fmtL (zs.take q)).length ≤ 2883584 := by have := fmtL_length _ (HRA.out.take q); rw [List.length_take] at this; omega
      have hl2 : (fmtL []).length ≤ 0 := by simp [fmtL_nil]
      generalize fmtL (zs.take q) = fL at *
      generalize fmtL [] = fR at *
      generalize fmtL zs = fW at *
      go_wp2
      all_goals (go_ret; exact ⟨rfl, HW4⟩)
    case pos =>
      have hneq : ¬ (n = q) := by omega
      obtain ⟨b, off, rfl, _⟩ := HA3.out.get (k := q) (by rw [← HN.out]; exact hqn)
      go_wp2_with fail
      refine (fmt_any hI hJ (some ⟨b, off + q, none⟩) (n - q) (n - q) (zs.drop q) w3 (by rw [List.length_drop, ← HN.out]) (HA3.out.drop q) (HRA.out.drop q) (by rw [List.length_drop, ← HN.out]; omega) HT3.out).mono ?_
      rintro e w4 ⟨rfl, hb4⟩
      have HA4 : Hid (SliceIs w4 (some ⟨b, off, none⟩) zs) := HA3.out.later hb4
      have HT4 : Hid (Tab w4) := HT3.out.later hb4
      have HW4 : Hid (Below w.heap.size w w4) := HW3.out.trans (hb4.mono HW3.out.size)
      clear HA3 HT3 HW3 hb4
      have hql : q < zs.length := by rw [← HN.out]; exact hqn
      have hzr := HRA.out.at q
      have HF : Hid (∀ w', Below w4.heap.size w4 w' → Calls Tryd.prog 6 #[.slice (some ⟨b, off + q, none⟩) 1 (n - q)] w' fun e w'' => e = .returned (.string ⟨(Lib.itoa (zs.getD q 0)).toArray⟩) ∧ Below w4.heap.size w4 w'') := by
        intro w' hb'
        have h := fmt_any hI hJ (some ⟨b, off + q, none⟩) 1 (n - q) ((zs.drop q).take 1) w' (by rw [one_of_drop zs q hql]; rfl) (((HA4.out.later hb').drop q).take 1) ((HRA.out.drop q).take 1) (by rw [one_of_drop zs q hql]; simp) (HT4.out.later hb')
        rw [one_of_drop zs q hql, fmtL_one] at h
        exact h.mono fun e w'' ⟨he, hb⟩ => ⟨he, hb'.trans (hb.mono hb'.size)⟩
      have HD : Hid (∀ w', Below w4.heap.size w4 w' → Calls Tryd.prog 7 #[.int .i64 (zs.getD q 0)] w' fun e w'' => e = .returned (.string ⟨(Lib.itoa (zs.getD q 0)).toArray⟩) ∧ Below w4.heap.size w4 w'') := by
        intro w' hb'
        exact (dec_any _ w' hzr.1 hzr.2).mono fun e w'' ⟨he, hb⟩ => ⟨he, hb'.trans (hb.mono hb'.size)⟩
      have HC : Hid (∀ w', Below w4.heap.size w4 w' → w'.cell? ⟨b, off + q, none⟩ = some (.int .i64 (zs.getD q 0))) := by
        intro w' hb'
        obtain ⟨b', off', hbo, hc⟩ := (HA4.out.later hb').get hql
        obtain ⟨rfl, rfl⟩ : b = b' ∧ off = off' := by simpa using hbo
        exact hc
      have hc4 := HC.out w4 (Below.refl _ _)
      have hl1 : (fmtL (zs.take q)).length ≤ 2883584 := by have := fmtL_length _ (HRA.out.take q); rw [List.length_take] at this; omega
      have hl2 : (fmtL (zs.drop q)).length ≤ 2883584 := by have := fmtL_length _ (HRA.out.drop q); rw [List.length_drop, ← HN.out] at this; omega
      have HQ : Hid ((0 < q → (fmtL zs == ((⟨(fmtL (zs.take q)).toArray⟩ : ByteArray) ++ ⟨#[44]⟩ ++ ⟨(fmtL (zs.drop q)).toArray⟩).toList) = true) ∧ (q = 0 → (fmtL zs == ((⟨(fmtL (zs.take q)).toArray⟩ : ByteArray) ++ ⟨(fmtL (zs.drop q)).toArray⟩).toList) = true)) :=
        ⟨fun h => eq_mid zs q h hql, fun h => by subst h; exact eq_zero zs⟩
      generalize zs.getD q 0 = z at *
      generalize fmtL (zs.take q) = fL at *
      generalize fmtL (zs.drop q) = fR at *
      generalize fmtL zs = fW at *
      clear hzr hql
      have hqn' : (q : Int) < (n : Int) := by omega
      have hq1 : (q : Int) + 1 ≤ (n : Int) := by omega
      have hwr : IntKind.i64.wrap ((q : Int) + 1) = (q : Int) + 1 := by rw [IntKind.wrap_i64]; omega
      have hsl1 := cut_one b off n q hqn
      have hsl2 := cut_one_at b off n q hqn
      by_cases hq0 : 0 < q
      · have heq := HQ.out.1 hq0
        go_wp2
        go_region_with (first
          | (go_at_call 6; refine (HF.out _ ?_).mono ?_; exact ⟨rfl, rfl, rfl, Nat.le_refl _, fun _ _ => rfl⟩; rintro e w5 ⟨rfl, hb5⟩; have hc5 := HC.out w5 hb5)
          | (go_at_call 7; refine (HD.out _ ?_).mono ?_; assumption; rintro e w6 ⟨rfl, hb6⟩))
        all_goals (go_wp2; go_ret; exact ⟨rfl, HW4.out.trans (hb6.mono HW4.out.size)⟩)
      · have heq := HQ.out.2 (by omega)
        go_wp2
        go_region_with (first
          | (go_at_call 6; refine (HF.out _ ?_).mono ?_; exact ⟨rfl, rfl, rfl, Nat.le_refl _, fun _ _ => rfl⟩; rintro e w5 ⟨rfl, hb5⟩; have hc5 := HC.out w5 hb5)
          | (go_at_call 7; refine (HD.out _ ?_).mono ?_; assumption; rintro e w6 ⟨rfl, hb6⟩))
        all_goals (go_wp2; go_ret; exact ⟨rfl, HW4.out.trans (hb6.mono HW4.out.size)⟩)

end Go.Proofs.Qxb6628262aDoor
