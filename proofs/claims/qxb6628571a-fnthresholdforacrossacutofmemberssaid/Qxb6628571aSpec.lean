/-
  SEAT b6628571a: THE WALK OVER FnThresholdForMatchesSpec (function 3).
-/
import Derived.Test.Qxb6628571aThr
import Derived.Test.Qxb6628571aSizes
namespace Go.Proofs.Qxb6628571a
open Go.RowKit

/-- What the seat's walks are told of the arguments. -/
structure ArgsAre (w : World) (a ka va : Option Addr) (n c m vn : Nat) (N D K : Nat → ByteArray) (W V : Nat → Int) (dom : ByteArray) : Prop where
  mems : MemsAt w a n N W D
  keys : StrsAt w ka m K
  vals : NumsAt w va vn V
  nb : n ≤ 9223372036854775807
  mb : m ≤ 9223372036854775807
  ann : a = none → n = 0 ∧ c = 0
  kn : ka = none → m = 0
  ks : ∀ j, (K j).size ≤ maxLen
  vs : ∀ j, (Lit.int .i64 (V j)).wf = true
  ws : ∀ j, -9223372036854775808 ≤ W j ∧ W j ≤ 9223372036854775807
  dn : dom.size ≤ maxLen

set_option maxHeartbeats 2000000 in
set_option maxRecDepth 100000 in
theorem spec_walk (nm : ByteArray) (a ka va : Option Addr) (n c m kc vn vc : Nat) (thr rej : Int) (dom : ByteArray) (N D K : Nat → ByteArray) (W V : Nat → Int) (w : World) (hA : ArgsAre w a ka va n c m vn N D K W V dom) :
    Calls Try.prog 3 #[.string nm, .slice a n c, .int .i64 thr, .slice ka m kc, .slice va vn vc, .int .i64 rej, .string dom] w fun e w' => e = .returned (.bool true) ∧ Below w.heap.size w w' := by
  have HA : Hid (ArgsAre w a ka va n c m vn N D K W V dom) := hA
  clear hA
  go_enter Try.func3, Try.ntmps3
  go_wp2_with fail
  refine (bytes5 nm a ka va n c m kc vn vc thr rej dom N D K W w HA.out.mems HA.out.keys HA.out.nb HA.out.mb).mono ?_
  rintro e w' ⟨⟨v, rfl, hv⟩, rfl⟩
  cases v with
  | false =>
    clear hv
    go_wp2
    go_ret
    exact ⟨rfl, Below.refl _ _⟩
  | true =>
  obtain ⟨hn, hm⟩ := hv rfl
  clear hv
  go_wp2_with fail
  refine (sizes6 nm a ka va n c m kc vn vc dom N D K W w HA.out.mems HA.out.keys hn hm).mono ?_
  rintro e w' ⟨⟨v, rfl⟩, rfl⟩
  cases v with
  | false =>
    go_wp2
    go_ret
    exact ⟨rfl, Below.refl _ _⟩
  | true =>
  by_cases hmv : m = vn
  case neg =>
    have hmv' : ((m : Int) != (vn : Int)) = true := by rw [bne_iff_ne]; omega
    go_wp2
    go_ret
    exact ⟨rfl, Below.refl _ _⟩
  subst hmv
  go_wp2_with fail
  refine (domain_calls ka va m kc vc K V dom w HA.out.keys HA.out.vals hm).mono ?_
  rintro e w' ⟨rfl, rfl⟩
  go_wp2_with fail
  refine (weight_calls a n c N D W dom w HA.out.mems hn HA.out.ws).mono ?_
  rintro e w' ⟨⟨s, ok, rfl, hok⟩, rfl⟩
  have HK : Hid (ok = true → s = sumTo W D dom n ∧ 0 ≤ s ∧ s ≤ 4611686018427387904) := hok
  clear hok
  have HP : Hid (Calls Try.prog 9 #[.string nm, .slice a n c, .int .i64 thr, .slice ka m kc, .slice va m vc, .int .i64 rej] w fun e w' => PermOut nm n m thr rej N D K W V e w' ∧ Below w.heap.size w w') :=
    perm_calls nm a ka va n c m kc vc thr rej N D K W V w HA.out.mems HA.out.keys HA.out.vals hn hm HA.out.ann HA.out.kn HA.out.ks HA.out.vs
  generalize hset : (lastTo K V dom m).2 = set at *
  have HSET : Hid ((lastTo K V dom m).2 = set) := hset
  clear hset
  have HT1 : Hid ((lastTo K V dom m).1 = (lastTo K V dom m).1) := rfl
  cases set with
  | true =>
    have HT : Hid (∀ ma mc dm w', MapIs w' dm K V m → Calls Try.prog 10 #[.agg #[.string nm, .slice ma n mc, .int .i64 thr, .map dm, .int .i64 rej], .string dom] w' fun e w'' => e = .returned (.int .i64 (lastTo K V dom m).1) ∧ Below w'.heap.size w' w'') :=
      fun ma mc dm w' h => thr_set nm ma n mc m thr rej dm K V dom w' h HA.out.dn HSET.out
    clear HT1 HSET
    generalize (lastTo K V dom m).1 = t at *
    go_wp2_with fail
    refine HP.out.mono ?_
    rintro e w1 ⟨⟨ma, mc, dm, rfl, hm1, hd1⟩, hb1⟩
    have HD1 : Hid (MapIs (w1.alloc (.cells #[.string nm, .slice ma n mc, .int .i64 thr, .map dm, .int .i64 rej] 33)) dm K V m) := hd1.later ((Below.refl _ _).alloc (Nat.le_refl _) _)
    have HB1 : Hid (Below w.heap.size w (w1.alloc (.cells #[.string nm, .slice ma n mc, .int .i64 thr, .map dm, .int .i64 rej] 33))) := hb1.alloc hb1.size _
    clear hm1 hd1 hb1
    go_wp2_with fail
    refine (HT.out ma mc dm _ HD1.out).mono ?_
    rintro e w2 ⟨rfl, hb2⟩
    have HB2 : Hid (Below w.heap.size w w2) := HB1.out.trans (hb2.mono HB1.out.size)
    clear hb2
    go_wp2
    go_ret
    exact ⟨rfl, HB2⟩
  | false =>
    by_cases ht : thr = 0
    case neg =>
      have ht1 : (thr != 0) = true := by rw [bne_iff_ne]; exact ht
      have ht2 : (thr == 0) = false := beq_eq_false_iff_ne.2 ht
      have HT : Hid (∀ ma mc dm w', MapIs w' dm K V m → Calls Try.prog 10 #[.agg #[.string nm, .slice ma n mc, .int .i64 thr, .map dm, .int .i64 rej], .string dom] w' fun e w'' => e = .returned (.int .i64 thr) ∧ Below w'.heap.size w' w'') :=
        fun ma mc dm w' h => thr_def nm ma n mc m thr rej dm K V dom w' h HA.out.dn HSET.out ht1
      clear HT1 HSET ht
      generalize (lastTo K V dom m).1 = t at *
      go_wp2_with fail
      refine HP.out.mono ?_
      rintro e w1 ⟨⟨ma, mc, dm, rfl, hm1, hd1⟩, hb1⟩
      have HD1 : Hid (MapIs (w1.alloc (.cells #[.string nm, .slice ma n mc, .int .i64 thr, .map dm, .int .i64 rej] 33)) dm K V m) := hd1.later ((Below.refl _ _).alloc (Nat.le_refl _) _)
      have HM1 : Hid (MemsAt (w1.alloc (.cells #[.string nm, .slice ma n mc, .int .i64 thr, .map dm, .int .i64 rej] 33)) ma n N W D) := hm1.later ((Below.refl _ _).alloc (Nat.le_refl _) _)
      have HB1 : Hid (Below w.heap.size w (w1.alloc (.cells #[.string nm, .slice ma n mc, .int .i64 thr, .map dm, .int .i64 rej] 33))) := hb1.alloc hb1.size _
      clear hm1 hd1 hb1
      go_wp2_with fail
      refine (HT.out ma mc dm _ HD1.out).mono ?_
      rintro e w2 ⟨rfl, hb2⟩
      have HB2 : Hid (Below w.heap.size w w2) := HB1.out.trans (hb2.mono HB1.out.size)
      clear hb2
      go_wp2
      go_ret
      exact ⟨rfl, HB2⟩
    case pos =>
      subst ht
      cases ok with
      | false =>
        clear HT1 HSET
        generalize (lastTo K V dom m).1 = t at *
        go_wp2
        go_ret
        exact ⟨rfl, Below.refl _ _⟩
      | true =>
        obtain ⟨hs, hs0, hs1⟩ := HK.out rfl
        have HT : Hid (∀ ma mc dm w', MapIs w' dm K V m → MemsAt w' ma n N W D → Calls Try.prog 10 #[.agg #[.string nm, .slice ma n mc, .int .i64 0, .map dm, .int .i64 rej], .string dom] w' fun e w'' => e = .returned (.int .i64 (s / 2 + 1)) ∧ Below w'.heap.size w' w'') :=
          fun ma mc dm w' h h' => by
            rw [hs]
            exact thr_maj nm ma n mc m rej dm K N D V W dom w' h HA.out.dn HSET.out h' hn (by rw [← hs]; exact hs0) (by rw [← hs]; exact hs1)
        clear HT1 HSET HK hs
        generalize (lastTo K V dom m).1 = t at *
        go_wp2_with fail
        refine HP.out.mono ?_
        rintro e w1 ⟨⟨ma, mc, dm, rfl, hm1, hd1⟩, hb1⟩
        have HD1 : Hid (MapIs (w1.alloc (.cells #[.string nm, .slice ma n mc, .int .i64 0, .map dm, .int .i64 rej] 33)) dm K V m) := hd1.later ((Below.refl _ _).alloc (Nat.le_refl _) _)
        have HM1 : Hid (MemsAt (w1.alloc (.cells #[.string nm, .slice ma n mc, .int .i64 0, .map dm, .int .i64 rej] 33)) ma n N W D) := hm1.later ((Below.refl _ _).alloc (Nat.le_refl _) _)
        have HB1 : Hid (Below w.heap.size w (w1.alloc (.cells #[.string nm, .slice ma n mc, .int .i64 0, .map dm, .int .i64 rej] 33))) := hb1.alloc hb1.size _
        clear hm1 hd1 hb1
        go_wp2_with fail
        refine (HT.out ma mc dm _ HD1.out HM1.out).mono ?_
        rintro e w2 ⟨rfl, hb2⟩
        have HB2 : Hid (Below w.heap.size w w2) := HB1.out.trans (hb2.mono HB1.out.size)
        clear hb2
        have hf1 : s < 2 * (s / 2 + 1) := by omega
        have hf2 : 2 * (s / 2 + 1) - 2 ≤ s := by omega
        go_wp2
        go_ret
        exact ⟨rfl, HB2⟩

end Go.Proofs.Qxb6628571a
