/-
  SEAT b6630568aF: THE WALK OVER FnSiteNameCutAtAnyPlace (function 3).
-/
import Derived.Test.Qxb6630568aFmtHyphen
namespace Go.Proofs.Qxb6630568aFmt
open Go.RowKit Go.Extern.Stop Go.Stop Go.Extern

theorem first_data (x : ByteArray) (y : UInt8) (l : List UInt8) (h : x.data.toList = y :: l) : (x.extract 0 1).data.toList = [y] := by
  rw [ByteArray.data_extract, Array.toList_extract, h]; rfl
theorem rest_data (x : ByteArray) (y : UInt8) (l : List UInt8) (h : x.data.toList = y :: l) : (x.extract 1 x.size).data.toList = l := by
  have e : x.size = l.length + 1 := by
    have h2 := congrArg List.length h
    rw [Array.length_toList, List.length_cons] at h2
    exact h2
  rw [ByteArray.data_extract, Array.toList_extract, h, e]
  simp [List.extract]

set_option maxHeartbeats 1000000 in
theorem cut_calls (F : Interp) (a b : ByteArray) (w : World) (hF : F.answers w.tape) (hT : Tells F) :
    Calls Tryf.prog 3 #[.string a, .string b] w fun e w' => e = .returned (.bool true) ∧ Below w.heap.size w w' := by
  have HTT : Hid (Tells F) := hT
  have HFF : Hid (F.answers w.tape) := hF
  clear hT hF
  go_enter Tryf.func3, Tryf.ntmps3
  go_wp2_with fail
  refine (bytes5_calls a b w).mono ?_
  rintro e w1 ⟨⟨v, rfl⟩, rfl⟩
  cases v with
  | false =>
    go_wp2
    go_ret
    exact ⟨rfl, Below.refl _ _⟩
  | true =>
    by_cases ha : 65536 < (a.size : Int)
    · go_wp2
      go_ret
      exact ⟨rfl, Below.refl _ _⟩
    by_cases hb : 65536 < (b.size : Int)
    · go_wp2
      go_ret
      exact ⟨rfl, Below.refl _ _⟩
    have HLA : Hid (a.data.toList.length ≤ 65536) := by show _ ≤ _; rw [Array.length_toList]; show a.size ≤ 65536; omega
    have HLB : Hid (b.data.toList.length ≤ 65536) := by show _ ≤ _; rw [Array.length_toList]; show b.size ≤ 65536; omega
    go_wp2_with fail
    have HX : Hid ((a ++ b).data.toList = a.data.toList ++ b.data.toList) := by show _ = _; simp
    generalize a ++ b = x at *
    generalize hg : okName x.data.toList = got
    have HG : Hid _ := hg
    clear hg ha hb
    refine (accepts_at F _ x.data.toList got _ _ HFF.out HTT.out (Below.refl _ _) rfl (by rw [HX.out, List.length_append]; have := HLA.out; have := HLB.out; omega) HG.out).mono ?_
    rintro e w2 ⟨rfl, hb2⟩
    have HB2 : Hid _ := hb2
    clear hb2
    by_cases h0 : (x.size : Int) = 0
    · have h0' : ((x.size : Int) == 0) = true := beq_iff_eq.2 h0
      have hgot : got = false := by
        have e : x.data.toList = [] := List.eq_nil_of_length_eq_zero (by rw [Array.length_toList]; show x.size = 0; omega)
        rw [← HG.out, e]; rfl
      subst hgot
      clear h0
      go_wp2
      go_ret
      exact ⟨rfl, HB2⟩
    have h0' : ((x.size : Int) == 0) = false := beq_eq_false_iff_ne.2 h0
    have HN0 : Hid (¬ (x.size : Int) = 0) := h0
    clear h0
    by_cases h63 : 63 < (x.size : Int)
    · have hgot : got = false := by
        rw [← HG.out]
        exact okName_long _ (by rw [Array.length_toList]; show 63 < x.size; omega)
      subst hgot
      go_wp2
      go_ret
      exact ⟨rfl, HB2⟩
    cases hae : a.toList.isEmpty with
    | true =>
      by_cases h1 : (x.size : Int) = 1
      · have h1' : ((x.size : Int) == 1) = true := beq_iff_eq.2 h1
        obtain ⟨y, hy⟩ : ∃ y, x.data.toList = [y] := List.length_eq_one_iff.1 (by rw [Array.length_toList]; show x.size = 1; omega)
        have HY : Hid _ := hy
        have HC : Hid (got = (okName ([y] ++ [48]) && okName (48 :: [y]))) := by show _ = _; rw [← HG.out, hy]; exact okName_one y
        clear hy h1
        have HC1 : Hid _ := HC.out
        generalize hv1 : okName ([y] ++ [48]) = v1 at HC1
        generalize hv2 : okName (48 :: [y]) = v2 at HC1
        have HV1 : Hid _ := hv1
        have HV2 : Hid _ := hv2
        clear hv1 hv2 HC
        go_wp2_with fail
        refine (accepts_at F _ ([y] ++ [48]) v1 _ _ HFF.out HTT.out HB2.out (by rw [ByteArray.data_append, Array.toList_append, HY.out]) (by simp) HV1.out).mono ?_
        rintro e w3 ⟨rfl, hb3⟩
        have HB3 : Hid _ := hb3
        clear hb3
        cases v1 with
        | false =>
          have hgot : got = false := HC1.out
          subst hgot
          go_wp2
          go_ret
          exact ⟨rfl, HB3⟩
        | true =>
          go_wp2_with fail
          refine (accepts_at F _ (48 :: [y]) v2 _ _ HFF.out HTT.out HB3.out (by rw [ByteArray.data_append, Array.toList_append, HY.out]; rfl) (by simp) HV2.out).mono ?_
          rintro e w4 ⟨rfl, hb4⟩
          have HB4 : Hid _ := hb4
          clear hb4
          have hgot : got = v2 := HC1.out
          subst hgot
          cases got with
          | true =>
            go_wp2
            go_ret
            exact ⟨rfl, HB4⟩
          | false =>
            go_wp2
            go_ret
            exact ⟨rfl, HB4⟩
      · have h1' : ((x.size : Int) == 1) = false := beq_eq_false_iff_ne.2 h1
        have h2 : (1 : Int) ≤ (x.size : Int) := by have := HN0.out; omega
        obtain ⟨y, l, hy⟩ : ∃ y l, x.data.toList = y :: l := by
          cases hl : x.data.toList with
          | nil =>
            have h3 := congrArg List.length hl
            rw [Array.length_toList, List.length_nil] at h3
            have h4 : x.size = 0 := h3
            omega
          | cons y l => exact ⟨y, l, rfl⟩
        have hsz : l.length + 1 = x.size := by
          have h3 := congrArg List.length hy
          rw [Array.length_toList, List.length_cons] at h3
          exact h3.symm
        have HLN : Hid (l.length ≤ 63) := by show _ ≤ _; omega
        have HY1 : Hid _ := first_data x y l hy
        have HY2 : Hid _ := rest_data x y l hy
        have HC : Hid (got = (okName ([y] ++ [48]) && okName (48 :: l))) := by
          show _ = _
          rw [← HG.out, hy]
          exact okName_cut [y] l (by simp) (by intro h; rw [h] at hsz; simp at hsz; omega) (by rw [List.length_append, List.length_singleton]; omega)
        clear hy h1 hsz
        have HC1 : Hid _ := HC.out
        generalize hv1 : okName ([y] ++ [48]) = v1 at HC1
        generalize hv2 : okName (48 :: l) = v2 at HC1
        have HV1 : Hid _ := hv1
        have HV2 : Hid _ := hv2
        clear hv1 hv2 HC
        go_wp2_with fail
        refine (accepts_at F _ ([y] ++ [48]) v1 _ _ HFF.out HTT.out HB2.out (by rw [ByteArray.data_append, Array.toList_append, HY1.out]) (by simp) HV1.out).mono ?_
        rintro e w3 ⟨rfl, hb3⟩
        have HB3 : Hid _ := hb3
        clear hb3
        cases v1 with
        | false =>
          have hgot : got = false := HC1.out
          subst hgot
          go_wp2
          go_ret
          exact ⟨rfl, HB3⟩
        | true =>
          go_wp2_with fail
          refine (accepts_at F _ (48 :: l) v2 _ _ HFF.out HTT.out HB3.out (by rw [ByteArray.data_append, Array.toList_append, HY2.out]; rfl) (by rw [List.length_cons]; have := HLN.out; omega) HV2.out).mono ?_
          rintro e w4 ⟨rfl, hb4⟩
          have HB4 : Hid _ := hb4
          clear hb4
          have hgot : got = v2 := HC1.out
          subst hgot
          cases got with
          | true =>
            go_wp2
            go_ret
            exact ⟨rfl, HB4⟩
          | false =>
            go_wp2
            go_ret
            exact ⟨rfl, HB4⟩
    | false =>
      cases hbe : b.toList.isEmpty with
      | true =>
        by_cases h1 : (x.size : Int) = 1
        · have h1' : ((x.size : Int) == 1) = true := beq_iff_eq.2 h1
          obtain ⟨y, hy⟩ : ∃ y, x.data.toList = [y] := List.length_eq_one_iff.1 (by rw [Array.length_toList]; show x.size = 1; omega)
          have HY : Hid _ := hy
          have HC : Hid (got = (okName ([y] ++ [48]) && okName (48 :: [y]))) := by show _ = _; rw [← HG.out, hy]; exact okName_one y
          clear hy h1
          have HC1 : Hid _ := HC.out
          generalize hv1 : okName ([y] ++ [48]) = v1 at HC1
          generalize hv2 : okName (48 :: [y]) = v2 at HC1
          have HV1 : Hid _ := hv1
          have HV2 : Hid _ := hv2
          clear hv1 hv2 HC
          go_wp2_with fail
          refine (accepts_at F _ ([y] ++ [48]) v1 _ _ HFF.out HTT.out HB2.out (by rw [ByteArray.data_append, Array.toList_append, HY.out]) (by simp) HV1.out).mono ?_
          rintro e w3 ⟨rfl, hb3⟩
          have HB3 : Hid _ := hb3
          clear hb3
          cases v1 with
          | false =>
            have hgot : got = false := HC1.out
            subst hgot
            go_wp2
            go_ret
            exact ⟨rfl, HB3⟩
          | true =>
            go_wp2_with fail
            refine (accepts_at F _ (48 :: [y]) v2 _ _ HFF.out HTT.out HB3.out (by rw [ByteArray.data_append, Array.toList_append, HY.out]; rfl) (by simp) HV2.out).mono ?_
            rintro e w4 ⟨rfl, hb4⟩
            have HB4 : Hid _ := hb4
            clear hb4
            have hgot : got = v2 := HC1.out
            subst hgot
            cases got with
            | true =>
              go_wp2
              go_ret
              exact ⟨rfl, HB4⟩
            | false =>
              go_wp2
              go_ret
              exact ⟨rfl, HB4⟩
        · have h1' : ((x.size : Int) == 1) = false := beq_eq_false_iff_ne.2 h1
          have h2 : (1 : Int) ≤ (x.size : Int) := by have := HN0.out; omega
          obtain ⟨y, l, hy⟩ : ∃ y l, x.data.toList = y :: l := by
            cases hl : x.data.toList with
            | nil =>
              have h3 := congrArg List.length hl
              rw [Array.length_toList, List.length_nil] at h3
              have h4 : x.size = 0 := h3
              omega
            | cons y l => exact ⟨y, l, rfl⟩
          have hsz : l.length + 1 = x.size := by
            have h3 := congrArg List.length hy
            rw [Array.length_toList, List.length_cons] at h3
            exact h3.symm
          have HLN : Hid (l.length ≤ 63) := by show _ ≤ _; omega
          have HY1 : Hid _ := first_data x y l hy
          have HY2 : Hid _ := rest_data x y l hy
          have HC : Hid (got = (okName ([y] ++ [48]) && okName (48 :: l))) := by
            show _ = _
            rw [← HG.out, hy]
            exact okName_cut [y] l (by simp) (by intro h; rw [h] at hsz; simp at hsz; omega) (by rw [List.length_append, List.length_singleton]; omega)
          clear hy h1 hsz
          have HC1 : Hid _ := HC.out
          generalize hv1 : okName ([y] ++ [48]) = v1 at HC1
          generalize hv2 : okName (48 :: l) = v2 at HC1
          have HV1 : Hid _ := hv1
          have HV2 : Hid _ := hv2
          clear hv1 hv2 HC
          go_wp2_with fail
          refine (accepts_at F _ ([y] ++ [48]) v1 _ _ HFF.out HTT.out HB2.out (by rw [ByteArray.data_append, Array.toList_append, HY1.out]) (by simp) HV1.out).mono ?_
          rintro e w3 ⟨rfl, hb3⟩
          have HB3 : Hid _ := hb3
          clear hb3
          cases v1 with
          | false =>
            have hgot : got = false := HC1.out
            subst hgot
            go_wp2
            go_ret
            exact ⟨rfl, HB3⟩
          | true =>
            go_wp2_with fail
            refine (accepts_at F _ (48 :: l) v2 _ _ HFF.out HTT.out HB3.out (by rw [ByteArray.data_append, Array.toList_append, HY2.out]; rfl) (by rw [List.length_cons]; have := HLN.out; omega) HV2.out).mono ?_
            rintro e w4 ⟨rfl, hb4⟩
            have HB4 : Hid _ := hb4
            clear hb4
            have hgot : got = v2 := HC1.out
            subst hgot
            cases got with
            | true =>
              go_wp2
              go_ret
              exact ⟨rfl, HB4⟩
            | false =>
              go_wp2
              go_ret
              exact ⟨rfl, HB4⟩
      | false =>
        have HC : Hid (got = (okName (a.data.toList ++ [48]) && okName (48 :: b.data.toList))) := by
          show _ = _
          rw [← HG.out, HX.out]
          refine okName_cut _ _ ?_ ?_ ?_
          · intro h; rw [Lib.toList_data, h] at hae; cases hae
          · intro h; rw [Lib.toList_data, h] at hbe; cases hbe
          · rw [← HX.out, Array.length_toList]; show x.size ≤ 63; omega
        have HC1 : Hid _ := HC.out
        generalize hv1 : okName (a.data.toList ++ [48]) = v1 at HC1
        generalize hv2 : okName (48 :: b.data.toList) = v2 at HC1
        have HV1 : Hid _ := hv1
        have HV2 : Hid _ := hv2
        clear hv1 hv2 HC
        go_wp2_with fail
        refine (accepts_at F _ (a.data.toList ++ [48]) v1 _ _ HFF.out HTT.out HB2.out (by rw [ByteArray.data_append, Array.toList_append]) (by rw [List.length_append, List.length_singleton]; have := HLA.out; omega) HV1.out).mono ?_
        rintro e w3 ⟨rfl, hb3⟩
        have HB3 : Hid _ := hb3
        clear hb3
        cases v1 with
        | false =>
          have hgot : got = false := HC1.out
          subst hgot
          go_wp2
          go_ret
          exact ⟨rfl, HB3⟩
        | true =>
          go_wp2_with fail
          refine (accepts_at F _ (48 :: b.data.toList) v2 _ _ HFF.out HTT.out HB3.out (by rw [ByteArray.data_append, Array.toList_append]; rfl) (by rw [List.length_cons]; have := HLB.out; omega) HV2.out).mono ?_
          rintro e w4 ⟨rfl, hb4⟩
          have HB4 : Hid _ := hb4
          clear hb4
          have hgot : got = v2 := HC1.out
          subst hgot
          cases got with
          | true =>
            go_wp2
            go_ret
            exact ⟨rfl, HB4⟩
          | false =>
            go_wp2
            go_ret
            exact ⟨rfl, HB4⟩

end Go.Proofs.Qxb6630568aFmt
