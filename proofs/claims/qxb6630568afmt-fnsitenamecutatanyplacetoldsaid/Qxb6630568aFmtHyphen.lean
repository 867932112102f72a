/-
  SEAT b6630568aF: THE WALK OVER FnSiteNameHyphenAgainstDigitInside (function 4).
-/
import Derived.Test.Qxb6630568aFmtCheck
import Derived.Test.Qxb6630568aFmtPlain
namespace Go.Proofs.Qxb6630568aFmt
open Go.RowKit Go.Extern.Stop Go.Stop Go.Extern

/-- 'accepts' at a text whose bytes are a list 'l', on which 'okName' is known; the world later than 'w0'. -/
theorem accepts_at (F : Interp) (s : ByteArray) (l : List UInt8) (v : Bool) (w0 w : World) (hF : F.answers w0.tape) (hT : Tells F) (hb : Below w0.heap.size w0 w)
    (hl : s.data.toList = l) (hn : l.length ≤ 1048576) (hv : okName l = v) :
    Calls Tryf.prog 6 #[.string s] w fun e w' => e = .returned (.bool v) ∧ Below w0.heap.size w0 w' := by
  subst hl hv
  refine (accepts_calls F s w (by rw [hb.tape]; exact hF) hT (by rw [Array.length_toList] at hn; exact hn)).mono ?_
  rintro e w' ⟨rfl, h⟩
  exact ⟨rfl, hb.trans (h.mono hb.size)⟩

set_option maxHeartbeats 1000000 in
theorem hyphen_calls (F : Interp) (a b : ByteArray) (w : World) (hF : F.answers w.tape) (hT : Tells F) :
    Calls Tryf.prog 4 #[.string a, .string b] w fun e w' => e = .returned (.bool true) ∧ Below w.heap.size w w' := by
  have HTT : Hid (Tells F) := hT
  have HFF : Hid (F.answers w.tape) := hF
  clear hT hF
  go_enter Tryf.func4, Tryf.ntmps4
  go_wp2_with fail
  refine (bytes7_calls a b w).mono ?_
  rintro e w1 ⟨⟨v, rfl⟩, rfl⟩
  cases v with
  | false =>
    go_wp2
    go_ret
    exact ⟨rfl, Below.refl _ _⟩
  | true =>
    by_cases ha : 65536 < (a.size : Int)
    · go_wp2
      go_ret
      exact ⟨rfl, Below.refl _ _⟩
    by_cases hb : 65536 < (b.size : Int)
    · go_wp2
      go_ret
      exact ⟨rfl, Below.refl _ _⟩
    have HLA : Hid (a.data.toList.length ≤ 65536) := by show _ ≤ _; rw [Array.length_toList]; show a.size ≤ 65536; omega
    have HLB : Hid (b.data.toList.length ≤ 65536) := by show _ ≤ _; rw [Array.length_toList]; show b.size ≤ 65536; omega
    have HV1 : Hid _ := okName_inside a.data.toList b.data.toList
    have HV2 : Hid _ := okName_hyphen_first (a.data.toList ++ b.data.toList)
    have HV3 : Hid _ := okName_hyphen_last (a.data.toList ++ b.data.toList)
    have HV4 : Hid (63 < (a.size : Int) + b.size + 1 → okName (a.data.toList ++ 45 :: b.data.toList) = false ∧ okName (a.data.toList ++ 48 :: b.data.toList) = false) := by
      intro h
      have e1 : a.data.toList.length = a.size := Array.length_toList
      have e2 : b.data.toList.length = b.size := Array.length_toList
      exact ⟨okName_long _ (by rw [List.length_append, List.length_cons]; omega), okName_long _ (by rw [List.length_append, List.length_cons]; omega)⟩
    generalize hvH : okName (a.data.toList ++ 45 :: b.data.toList) = vH at *
    generalize hvD : okName (a.data.toList ++ 48 :: b.data.toList) = vD at *
    have HvH : Hid _ := hvH
    have HvD : Hid _ := hvD
    clear hvH hvD
    go_wp2_with fail
    refine (accepts_at F _ (a.data.toList ++ 45 :: b.data.toList) vH _ _ HFF.out HTT.out (Below.refl _ _) (by simp) (by simp; have := HLA.out; have := HLB.out; simp at *; omega) HvH.out).mono ?_
    rintro e w2 ⟨rfl, hb2⟩
    have HB2 : Hid _ := hb2
    clear hb2
    go_wp2_with fail
    refine (accepts_at F _ (a.data.toList ++ 48 :: b.data.toList) vD _ _ HFF.out HTT.out HB2.out (by simp) (by simp; have := HLA.out; have := HLB.out; simp at *; omega) HvD.out).mono ?_
    rintro e w3 ⟨rfl, hb3⟩
    have HB3 : Hid _ := hb3
    clear hb3
    go_wp2_with fail
    refine (accepts_at F _ (45 :: (a.data.toList ++ b.data.toList)) false _ _ HFF.out HTT.out HB3.out (by simp) (by simp; have := HLA.out; have := HLB.out; simp at *; omega) HV2.out).mono ?_
    rintro e w4 ⟨rfl, hb4⟩
    have HB4 : Hid _ := hb4
    clear hb4
    go_wp2_with fail
    refine (accepts_at F _ (a.data.toList ++ b.data.toList ++ [45]) false _ _ HFF.out HTT.out HB4.out (by simp) (by simp; have := HLA.out; have := HLB.out; simp at *; omega) HV3.out).mono ?_
    rintro e w5 ⟨rfl, hb5⟩
    have HB5 : Hid _ := hb5
    clear hb5
    by_cases h63 : 63 < (a.size : Int) + b.size + 1
    · obtain ⟨rfl, rfl⟩ := HV4.out h63
      go_wp2
      go_ret
      exact ⟨rfl, HB5⟩
    · have ea : a.toList.isEmpty = a.data.toList.isEmpty := by rw [Lib.toList_data]
      have eb : b.toList.isEmpty = b.data.toList.isEmpty := by rw [Lib.toList_data]
      have HV := HV1.out
      rw [← ea, ← eb] at HV
      clear ea eb
      have HW : Hid _ := HV
      clear HV HV1 HV4 HvH HvD
      cases hae : a.toList.isEmpty with
      | true =>
        have hvH : vH = false := by rw [HW.out, hae]; rfl
        clear HW
        subst hvH
        go_wp2
        go_ret
        exact ⟨rfl, HB5⟩
      | false =>
        cases hbe : b.toList.isEmpty with
        | true =>
          have hvH : vH = false := by rw [HW.out, hae, hbe]; rfl
          clear HW
          subst hvH
          go_wp2
          go_ret
          exact ⟨rfl, HB5⟩
        | false =>
          have hvH : vH = vD := by rw [HW.out, hae, hbe]; rfl
          clear HW
          subst hvH
          cases vH with
          | true =>
            go_wp2
            go_ret
            exact ⟨rfl, HB5⟩
          | false =>
            go_wp2
            go_ret
            exact ⟨rfl, HB5⟩

end Go.Proofs.Qxb6630568aFmt
