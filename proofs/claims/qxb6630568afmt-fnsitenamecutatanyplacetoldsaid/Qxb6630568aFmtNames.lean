/-
  SEAT b6630568aF: THE WALKS OVER siteNameFault (9), CheckSiteName (8) with fmt.Errorf (10), and the law's own 'accepts' (6).
-/
import Derived.Test.Qxb6630568aFmtFault
namespace Go.Proofs.Qxb6630568aFmt
open Go.RowKit Go.Extern.Stop Go.Stop Go.Extern

attribute [local go_sem] call12 call13 guardF fmtI fmtIr fmtC fmtCr op3 op9q op9s ptr32 elem32 isError32

/-- A name that a site may bear. -/
def okName (l : List UInt8) : Bool := (okAll l && !l.isEmpty) && (decide (l.length ≤ 63) && (!(l.getD 0 0 == 45) && !(l.getD (l.length - 1) 0 == 45)))

theorem wf_i64 (n : Int) (h0 : 0 ≤ n) (h1 : n ≤ 9223372036854775807) : (Lit.int .i64 n).wf = true := by
  simp [Lit.wf, IntKind.min, IntKind.max, IntKind.signed, IntKind.bits]; omega

theorem byte45 (b : UInt8) : (b == 45) = ((b.toNat : Int) == 45) := by
  rw [Bool.eq_iff_iff, beq_iff_eq, beq_iff_eq]
  constructor
  · rintro rfl; rfl
  · intro h
    have h2 : b.toNat = (45 : UInt8).toNat := by show b.toNat = 45; omega
    exact UInt8.toNat_inj.1 h2

set_option maxHeartbeats 1000000 in
theorem fault_calls (F : Interp) (s : ByteArray) (w : World) (hF : F.answers w.tape) (hT : Tells F) (hs : s.size ≤ 1048576) :
    Calls Tryf.prog 9 #[.string s] w fun e w' => FaultOut (okName s.data.toList) e ∧ Below w.heap.size w w' := by
  have HTT : Hid (Tells F) := hT
  have HFF : Hid (F.answers w.tape) := hF
  generalize hok : okName s.data.toList = ok
  have HOK : Hid (okName s.data.toList = ok) := hok
  clear hok hT hF
  go_enter Tryf.func9, Tryf.ntmps9
  go_wp2_with fail
  refine (earlier_calls F s w HFF.out HTT.out).mono ?_
  rintro e w1 ⟨⟨t, rfl, ht⟩, hb1⟩
  have HB1 : Hid (Below w.heap.size w w1) := hb1
  have hF1 := answers_open HFF.out
  rw [← hb1.tape] at hF1
  clear hb1
  generalize h1 : (okAll s.data.toList && !s.data.toList.isEmpty) = ok1 at *
  have H1 : Hid ((okAll s.data.toList && !s.data.toList.isEmpty) = ok1) := h1
  clear h1
  cases ok1 with
  | false =>
    have HE : Hid (ok = false) := by
      have h := HOK.out
      unfold okName at h
      rw [H1.out] at h
      exact h.symm
    go_wp2
    go_ret
    exact ⟨⟨t, rfl, by rw [HE.out]; exact ht⟩, HB1⟩
  | true =>
    have hpos : 0 < s.size := by
      have h := H1.out
      simp only [Bool.and_eq_true] at h
      have h2 := h.2
      cases hl : s.data.toList with
      | nil => rw [hl] at h2; simp at h2
      | cons x r =>
        have h3 := congrArg List.length hl
        rw [Array.length_toList, List.length_cons] at h3
        show 0 < s.data.size
        omega
    by_cases h63 : 63 < s.size
    · have h63' : (63 : Int) < (s.size : Int) := by omega
      have HE : Hid (ok = false) := by
        have h := HOK.out
        unfold okName at h
        rw [H1.out, decide_eq_false (by show ¬ s.data.toList.length ≤ 63; simp; omega)] at h
        exact h.symm
      have HR : Hid _ := HTT.out.long (s.size : Int) (wf_i64 _ (by omega) (by omega))
      go_wp2
      go_ret
      exact ⟨⟨_, rfl, by rw [HE.out]; exact HR.out⟩, (HB1.out.alloc HB1.out.size _).drew⟩
    · have h63' : ¬ (63 : Int) < (s.size : Int) := by omega
      have HG : Hid (ok = (!(s.data.toList.getD 0 0 == 45) && !(s.data.toList.getD (s.size - 1) 0 == 45))) := by
        have h := HOK.out
        unfold okName at h
        rw [H1.out, decide_eq_true (by show s.data.toList.length ≤ 63; simp; omega)] at h
        have e : s.data.toList.length = s.size := by simp
        rw [e] at h
        exact h.symm
      have hl1 : s.size - 1 < s.size := by omega
      have e0 : s.data.toList.getD 0 0 = s[0]'hpos := by
        rw [List.getD_eq_getElem?_getD, Array.getElem?_toList, Array.getElem?_eq_getElem hpos]; rfl
      have e1 : s.data.toList.getD (s.size - 1) 0 = s[s.size - 1]'hl1 := by
        rw [List.getD_eq_getElem?_getD, Array.getElem?_toList, Array.getElem?_eq_getElem hl1]; rfl
      rw [e0, e1, byte45, byte45] at HG
      clear e0 e1
      cases h0 : (((s[0]'hpos).toNat : Int) == 45) with
      | true =>
        have HE : Hid (ok = false) := by have h := HG.out; rw [h0] at h; exact h
        go_wp2
        go_ret
        exact ⟨⟨_, rfl, by rw [HE.out, Lib.toList_data]; rfl⟩, HB1⟩
      | false =>
        cases h1 : (((s[s.size - 1]'hl1).toNat : Int) == 45) with
        | true =>
          have HE : Hid (ok = false) := by have h := HG.out; rw [h0, h1] at h; exact h
          go_wp2
          go_ret
          exact ⟨⟨_, rfl, by rw [HE.out, Lib.toList_data]; rfl⟩, HB1⟩
        | false =>
          have HE : Hid (ok = true) := by have h := HG.out; rw [h0, h1] at h; exact h
          go_wp2
          go_ret
          exact ⟨⟨_, rfl, by rw [HE.out, Lib.toList_data]; rfl⟩, HB1⟩

end Go.Proofs.Qxb6630568aFmt
