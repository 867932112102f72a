/-
  SEAT b6630568aF: THE WALKS OVER CheckSiteName (8) with fmt.Errorf (10), the law's own 'accepts' (6), and the two 'zzBytes' (5, 7).
-/
import Derived.Test.Qxb6630568aFmtNames
namespace Go.Proofs.Qxb6630568aFmt
open Go.RowKit Go.Extern.Stop Go.Stop Go.Extern

attribute [local go_sem] call12 call13 guardF fmtC fmtCr op3 op9q op9s ptr32 elem32 isError32

/-- An error: nil just where all is well. -/
def ErrOut (ok : Bool) (e : Ending) : Prop := ∃ v : Value, e = .returned v ∧ bif ok then v = .nilIface else ∃ a : Addr, v = .iface 32 (.pointer (some a))

set_option maxHeartbeats 1000000 in
theorem check_calls (F : Interp) (s : ByteArray) (w : World) (hF : F.answers w.tape) (hT : Tells F) (hs : s.size ≤ 1048576) :
    Calls Tryf.prog 8 #[.string s] w fun e w' => ErrOut (okName s.data.toList) e ∧ Below w.heap.size w w' := by
  have HTT : Hid (Tells F) := hT
  have HFF : Hid (F.answers w.tape) := hF
  have HS : Hid (s.size ≤ 1048576) := hs
  generalize hok : okName s.data.toList = ok
  have HOK : Hid (okName s.data.toList = ok) := hok
  clear hok hT hF hs
  go_enter Tryf.func8, Tryf.ntmps8
  go_wp2_with fail
  refine (fault_calls F s w HFF.out HTT.out HS.out).mono ?_
  rintro e w1 ⟨⟨t, rfl, ht⟩, hb1⟩
  have HB1 : Hid (Below w.heap.size w w1) := hb1
  have hF1 := answers_open HFF.out
  rw [← hb1.tape] at hF1
  clear hb1
  rw [HOK.out] at ht
  cases ok with
  | true =>
    go_wp2
    go_ret
    exact ⟨⟨_, rfl, rfl⟩, HB1⟩
  | false =>
    go_wp2
    go_ret
    exact ⟨⟨_, rfl, ⟨_, rfl⟩⟩, ((HB1.out.alloc HB1.out.size _).alloc (by simp; have := HB1.out.size; omega) _).drew⟩

set_option maxHeartbeats 1000000 in
theorem accepts_calls (F : Interp) (s : ByteArray) (w : World) (hF : F.answers w.tape) (hT : Tells F) (hs : s.size ≤ 1048576) :
    Calls Tryf.prog 6 #[.string s] w fun e w' => e = .returned (.bool (okName s.data.toList)) ∧ Below w.heap.size w w' := by
  have HTT : Hid (Tells F) := hT
  have HFF : Hid (F.answers w.tape) := hF
  have HS : Hid (s.size ≤ 1048576) := hs
  generalize hok : okName s.data.toList = ok
  have HOK : Hid (okName s.data.toList = ok) := hok
  clear hok hT hF hs
  go_enter Tryf.func6, Tryf.ntmps6
  go_wp2_with fail
  refine (check_calls F s w HFF.out HTT.out HS.out).mono ?_
  rintro e w1 ⟨⟨v, rfl, hv⟩, hb1⟩
  have HB1 : Hid (Below w.heap.size w w1) := hb1
  clear hb1
  rw [HOK.out] at hv
  cases ok with
  | true =>
    replace hv : v = .nilIface := hv
    subst hv
    go_wp2
    go_ret
    exact ⟨rfl, HB1⟩
  | false =>
    replace hv : ∃ a : Addr, v = .iface 32 (.pointer (some a)) := hv
    obtain ⟨a, rfl⟩ := hv
    go_wp2
    go_ret
    exact ⟨rfl, HB1⟩

/-- A Boolean comes back. -/
def BytesOut (e : Ending) : Prop := ∃ v : Bool, e = .returned (.bool v)

set_option maxHeartbeats 1000000 in
theorem bytes5_calls (a b : ByteArray) (w : World) : Calls Tryf.prog 5 #[.string a, .string b] w fun e w' => BytesOut e ∧ w' = w := by
  go_enter Tryf.func5, Tryf.ntmps5
  by_cases ha : 1048576 < (a.size : Int)
  · go_wp2
    go_ret
    exact ⟨⟨_, rfl⟩, rfl⟩
  by_cases hb : 1048576 < (b.size : Int)
  · go_wp2
    go_ret
    exact ⟨⟨_, rfl⟩, rfl⟩
  by_cases hc : 1048576 < (a.size : Int) + (b.size : Int)
  · go_wp2
    go_ret
    exact ⟨⟨_, rfl⟩, rfl⟩
  · go_wp2
    go_ret
    exact ⟨⟨_, rfl⟩, rfl⟩

set_option maxHeartbeats 1000000 in
theorem bytes7_calls (a b : ByteArray) (w : World) : Calls Tryf.prog 7 #[.string a, .string b] w fun e w' => BytesOut e ∧ w' = w := by
  go_enter Tryf.func7, Tryf.ntmps7
  by_cases ha : 1048576 < (a.size : Int)
  · go_wp2
    go_ret
    exact ⟨⟨_, rfl⟩, rfl⟩
  by_cases hb : 1048576 < (b.size : Int)
  · go_wp2
    go_ret
    exact ⟨⟨_, rfl⟩, rfl⟩
  by_cases hc : 1048576 < (a.size : Int) + (b.size : Int)
  · go_wp2
    go_ret
    exact ⟨⟨_, rfl⟩, rfl⟩
  · go_wp2
    go_ret
    exact ⟨⟨_, rfl⟩, rfl⟩

end Go.Proofs.Qxb6630568aFmt
