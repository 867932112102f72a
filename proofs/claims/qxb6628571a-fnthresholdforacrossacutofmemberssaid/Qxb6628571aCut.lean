/-
  SEAT b6628571a: THE WALK OVER FnThresholdForAcrossACutOfMembers (function 4).
-/
import Derived.Test.Qxb6628571aSpec
namespace Go.Proofs.Qxb6628571a
open Go.RowKit

theorem Try.elem22 : Try.prog.elem 22 = 38 := by kernel_rfl

/-- 'members[:q]'. -/
theorem front_run (a : Option Addr) (n c q : Nat) (h : q ≤ c) (w : World) : (Instr.slice 22 (.slice a n c) none (some (.int .i64 (q : Int))) none).run Try.prog w = .ok (.slice a q c) w := by
  rw [run_slice_h w 22 a n c Try.underlying22 .i64 (q : Int) (by omega) (by omega), Try.elem22, Try.sizeOf38]
  simp [Result.andThen, sliced, Addr.add]
theorem front_run_at (a : Option Addr) (n c q : Nat) (h : q ≤ c) (w : World) : (Instr.sliceAt 22 (.slice a n c) none (some (.int .i64 (q : Int))) none).run Try.prog w = .ok (.slice a q c) w := by
  rw [run_sliceAt_slice _ _ _ _ _ _ Try.underlying22]; exact front_run a n c q h w

/-- 'members[q:]': its address. -/
def backAt (a : Option Addr) (c q : Nat) : Option Addr := if c = q then a else a.map (·.add (q * 3))
theorem back_run (a : Option Addr) (n c q : Nat) (h : q ≤ n) (w : World) : (Instr.slice 22 (.slice a n c) (some (.int .i64 (q : Int))) none none).run Try.prog w = .ok (.slice (backAt a c q) (n - q) (c - q)) w := by
  rw [run_slice_l w 22 a n c Try.underlying22 .i64 (q : Int) (by omega) (by omega), Try.elem22, Try.sizeOf38]
  simp [Result.andThen, sliced, backAt]
theorem back_run_at (a : Option Addr) (n c q : Nat) (h : q ≤ n) (w : World) : (Instr.sliceAt 22 (.slice a n c) (some (.int .i64 (q : Int))) none none).run Try.prog w = .ok (.slice (backAt a c q) (n - q) (c - q)) w := by
  rw [run_sliceAt_slice _ _ _ _ _ _ Try.underlying22]; exact back_run a n c q h w

theorem MemsAt.front {w : World} {a : Option Addr} {n : Nat} {N D : Nat → ByteArray} {W : Nat → Int} (h : MemsAt w a n N W D) {q : Nat} (hq : q ≤ n) : MemsAt w a q N W D := by
  rcases h with h | ⟨b, off, ha, hlt, hc⟩
  · exact .inl (by omega)
  · exact .inr ⟨b, off, ha, hlt, fun j hj => hc j (by omega)⟩
theorem MemsAt.back {w : World} {a : Option Addr} {n c : Nat} {N D : Nat → ByteArray} {W : Nat → Int} (h : MemsAt w a n N W D) {q : Nat} (hq : q ≤ n) (hnc : n ≤ c) :
    MemsAt w (backAt a c q) (n - q) (fun j => N (q + j)) (fun j => W (q + j)) (fun j => D (q + j)) := by
  by_cases h0 : n - q = 0
  · exact .inl h0
  · rcases h with h | ⟨b, off, rfl, hlt, hc⟩
    · omega
    · refine .inr ⟨b, off + q * 3, ?_, hlt, fun j hj => ?_⟩
      · unfold backAt
        rw [if_neg (by omega), Option.map_some, Go.WideShapes.add_plain]
      · have := hc (q + j) (by omega)
        rw [show off + (q + j) * 3 = off + q * 3 + j * 3 by omega] at this
        exact this
theorem back_none {a : Option Addr} {n c q : Nat} (hnn : a = none → n = 0 ∧ c = 0) (hq : q ≤ n) (hnc : n ≤ c) (h : backAt a c q = none) : n - q = 0 ∧ c - q = 0 := by
  unfold backAt at h
  split at h
  · omega
  · cases a with
    | none => have := hnn rfl; omega
    | some y => cases h

set_option maxHeartbeats 4000000 in
set_option maxRecDepth 100000 in
theorem cut_walk (nm : ByteArray) (a ka va : Option Addr) (n c m kc vn vc : Nat) (thr rej : Int) (dom : ByteArray) (cut : Int) (N D K : Nat → ByteArray) (W V : Nat → Int) (w : World) (hA : ArgsAre w a ka va n c m vn N D K W V dom) (hnc : n ≤ c) :
    Calls Try.prog 4 #[.string nm, .slice a n c, .int .i64 thr, .slice ka m kc, .slice va vn vc, .int .i64 rej, .string dom, .int .i64 cut] w fun e w' => e = .returned (.bool true) ∧ Below w.heap.size w w' := by
  have HA : Hid (ArgsAre w a ka va n c m vn N D K W V dom) := hA
  clear hA
  go_enter Try.func4, Try.ntmps4
  go_wp2_with fail
  refine (bytes11 nm a ka va n c m kc vn vc thr rej dom cut N D K W w HA.out.mems HA.out.keys HA.out.nb HA.out.mb).mono ?_
  rintro e w' ⟨⟨v, rfl, hv⟩, rfl⟩
  cases v with
  | false =>
    clear hv
    go_wp2
    go_ret
    exact ⟨rfl, Below.refl _ _⟩
  | true =>
  obtain ⟨hn, hm⟩ := hv rfl
  clear hv
  go_wp2_with fail
  refine (sizes6 nm a ka va n c m kc vn vc dom N D K W w HA.out.mems HA.out.keys hn hm).mono ?_
  rintro e w' ⟨⟨v, rfl⟩, rfl⟩
  cases v with
  | false =>
    go_wp2
    go_ret
    exact ⟨rfl, Below.refl _ _⟩
  | true =>
  by_cases hmv : m = vn
  case neg =>
    have hmv' : ((m : Int) != (vn : Int)) = true := by rw [bne_iff_ne]; omega
    go_wp2
    go_ret
    exact ⟨rfl, Below.refl _ _⟩
  subst hmv
  by_cases hk0 : cut < 0
  case pos =>
    go_wp2
    go_ret
    exact ⟨rfl, Below.refl _ _⟩
  by_cases hk1 : (n : Int) < cut
  case pos =>
    go_wp2
    go_ret
    exact ⟨rfl, Below.refl _ _⟩
  obtain ⟨q, rfl⟩ : ∃ q : Nat, cut = (q : Int) := ⟨cut.toNat, by omega⟩
  have hq : q ≤ n := by omega
  have hs1 := front_run a n c q (by omega)
  have hs2 := front_run_at a n c q (by omega)
  have hs3 := back_run a n c q hq
  have hs4 := back_run_at a n c q hq
  have HMF : Hid (MemsAt w a q N W D) := HA.out.mems.front hq
  have HMB : Hid (MemsAt w (backAt a c q) (n - q) (fun j => N (q + j)) (fun j => W (q + j)) (fun j => D (q + j))) := HA.out.mems.back hq hnc
  have PW : Hid (∀ w', Below w.heap.size w w' → Calls Try.prog 9 #[.string nm, .slice a n c, .int .i64 thr, .slice ka m kc, .slice va m vc, .int .i64 rej] w' fun e w'' => PermOut nm n m thr rej N D K W V e w'' ∧ Below w'.heap.size w' w'') :=
    fun w' hb => perm_calls nm a ka va n c m kc vc thr rej N D K W V w' (HA.out.mems.later hb) (HA.out.keys.later hb) (HA.out.vals.later hb) hn hm HA.out.ann HA.out.kn HA.out.ks HA.out.vs
  have PF : Hid (∀ w', Below w.heap.size w w' → Calls Try.prog 9 #[.string nm, .slice a q c, .int .i64 thr, .slice ka m kc, .slice va m vc, .int .i64 rej] w' fun e w'' => PermOut nm q m thr rej N D K W V e w'' ∧ Below w'.heap.size w' w'') :=
    fun w' hb => perm_calls nm a ka va q c m kc vc thr rej N D K W V w' (HMF.out.later hb) (HA.out.keys.later hb) (HA.out.vals.later hb) (by omega) hm (fun h => by have := HA.out.ann h; omega) HA.out.kn HA.out.ks HA.out.vs
  have PB : Hid (∀ w', Below w.heap.size w w' → Calls Try.prog 9 #[.string nm, .slice (backAt a c q) (n - q) (c - q), .int .i64 thr, .slice ka m kc, .slice va m vc, .int .i64 rej] w' fun e w'' => PermOut nm (n - q) m thr rej (fun j => N (q + j)) (fun j => D (q + j)) K (fun j => W (q + j)) V e w'' ∧ Below w'.heap.size w' w'') :=
    fun w' hb => perm_calls nm (backAt a c q) ka va (n - q) (c - q) m kc vc thr rej (fun j => N (q + j)) (fun j => D (q + j)) K (fun j => W (q + j)) V w' (HMB.out.later hb) (HA.out.keys.later hb) (HA.out.vals.later hb) (by omega) hm (fun h => back_none HA.out.ann hq hnc h) HA.out.kn HA.out.ks HA.out.vs
  have HW8 : Hid (Calls Try.prog 8 #[.slice (backAt a c q) (n - q) (c - q), .string dom] w fun e w' => WeightOut (fun j => W (q + j)) (fun j => D (q + j)) dom (n - q) e ∧ w = w') :=
    weight_calls (backAt a c q) (n - q) (c - q) (fun j => N (q + j)) (fun j => D (q + j)) (fun j => W (q + j)) dom w HMB.out (by omega) (fun j => HA.out.ws (q + j))
  have HSUM : Hid (sumTo W D dom n = sumTo W D dom q + sumTo (fun j => W (q + j)) (fun j => D (q + j)) dom (n - q)) := by
    have := sumTo_add W D dom q (n - q)
    rw [show q + (n - q) = n by omega] at this
    exact this
  generalize backAt a c q = ab at *
  go_wp2_with fail
  refine (domain_calls ka va m kc vc K V dom w HA.out.keys HA.out.vals hm).mono ?_
  rintro e w' ⟨rfl, rfl⟩
  go_wp2_with fail
  refine (weight_calls a q c N D W dom w HMF.out (by omega) HA.out.ws).mono ?_
  rintro e w' ⟨⟨sa, oka, rfl, hoka⟩, rfl⟩
  have HKA : Hid (oka = true → sa = sumTo W D dom q ∧ 0 ≤ sa ∧ sa ≤ 4611686018427387904) := hoka
  clear hoka
  go_wp2_with fail
  refine HW8.out.mono ?_
  rintro e w' ⟨⟨sb, okb, rfl, hokb⟩, rfl⟩
  have HKB : Hid (okb = true → sb = sumTo (fun j => W (q + j)) (fun j => D (q + j)) dom (n - q) ∧ 0 ≤ sb ∧ sb ≤ 4611686018427387904) := hokb
  clear hokb hs1 hs2 hs3 hs4 HW8
  generalize hset : (lastTo K V dom m).2 = set at *
  have HSET : Hid ((lastTo K V dom m).2 = set) := hset
  clear hset
  cases set with
  | true =>
    have TW : Hid (∀ ma mc dm w', MapIs w' dm K V m → MemsAt w' ma n N W D → Calls Try.prog 10 #[.agg #[.string nm, .slice ma n mc, .int .i64 thr, .map dm, .int .i64 rej], .string dom] w' fun e w'' => e = .returned (.int .i64 (lastTo K V dom m).1) ∧ Below w'.heap.size w' w'') :=
      fun ma mc dm w' h _ => thr_set nm ma n mc m thr rej dm K V dom w' h HA.out.dn HSET.out
    have TF : Hid (∀ ma mc dm w', MapIs w' dm K V m → MemsAt w' ma q N W D → Calls Try.prog 10 #[.agg #[.string nm, .slice ma q mc, .int .i64 thr, .map dm, .int .i64 rej], .string dom] w' fun e w'' => e = .returned (.int .i64 (lastTo K V dom m).1) ∧ Below w'.heap.size w' w'') :=
      fun ma mc dm w' h _ => thr_set nm ma q mc m thr rej dm K V dom w' h HA.out.dn HSET.out
    have TB : Hid (∀ ma mc dm w', MapIs w' dm K V m → MemsAt w' ma (n - q) (fun j => N (q + j)) (fun j => W (q + j)) (fun j => D (q + j)) → Calls Try.prog 10 #[.agg #[.string nm, .slice ma (n - q) mc, .int .i64 thr, .map dm, .int .i64 rej], .string dom] w' fun e w'' => e = .returned (.int .i64 (lastTo K V dom m).1) ∧ Below w'.heap.size w' w'') :=
      fun ma mc dm w' h _ => thr_set nm ma (n - q) mc m thr rej dm K V dom w' h HA.out.dn HSET.out
    clear HSET
    generalize (lastTo K V dom m).1 = t at *
    go_wp2_with fail
    refine (PW.out w (Below.refl _ _)).mono ?_
    rintro e w1 ⟨⟨ma0, mc0, dm0, rfl, hm0, hd0⟩, hb0⟩
    have HM0 : Hid (MemsAt w1 ma0 n N W D) := hm0
    have HD0 : Hid (MapIs w1 dm0 K V m) := hd0
    have HB1 : Hid (Below w.heap.size w w1) := hb0
    clear hm0 hd0 hb0
    go_wp2_with fail
    refine (TW.out ma0 mc0 dm0 w1 HD0.out HM0.out).mono ?_
    rintro e w2 ⟨rfl, hb0⟩
    have HB2 : Hid (Below w.heap.size w w2) := HB1.out.trans (hb0.mono HB1.out.size)
    clear hb0
    go_wp2_with fail
    refine (PF.out w2 HB2.out).mono ?_
    rintro e w3 ⟨⟨ma1, mc1, dm1, rfl, hm1, hd1⟩, hb1⟩
    have HM1 : Hid (MemsAt w3 ma1 q N W D) := hm1
    have HD1 : Hid (MapIs w3 dm1 K V m) := hd1
    have HB3 : Hid (Below w.heap.size w w3) := HB2.out.trans (hb1.mono HB2.out.size)
    clear hm1 hd1 hb1
    go_wp2_with fail
    refine (TF.out ma1 mc1 dm1 w3 HD1.out HM1.out).mono ?_
    rintro e w4 ⟨rfl, hb1⟩
    have HB4 : Hid (Below w.heap.size w w4) := HB3.out.trans (hb1.mono HB3.out.size)
    clear hb1
    go_wp2_with fail
    refine (PB.out w4 HB4.out).mono ?_
    rintro e w5 ⟨⟨ma2, mc2, dm2, rfl, hm2, hd2⟩, hb2⟩
    have HM2 : Hid (MemsAt w5 ma2 (n - q) (fun j => N (q + j)) (fun j => W (q + j)) (fun j => D (q + j))) := hm2
    have HD2 : Hid (MapIs w5 dm2 K V m) := hd2
    have HB5 : Hid (Below w.heap.size w w5) := HB4.out.trans (hb2.mono HB4.out.size)
    clear hm2 hd2 hb2
    go_wp2_with fail
    refine (TB.out ma2 mc2 dm2 w5 HD2.out HM2.out).mono ?_
    rintro e w6 ⟨rfl, hb2⟩
    have HB6 : Hid (Below w.heap.size w w6) := HB5.out.trans (hb2.mono HB5.out.size)
    clear hb2
    go_wp2
    go_ret
    exact ⟨rfl, HB6⟩
  | false =>
    by_cases ht : thr = 0
    case neg =>
      have ht1 : (thr != 0) = true := by rw [bne_iff_ne]; exact ht
      have ht2 : (thr == 0) = false := beq_eq_false_iff_ne.2 ht
      have TW : Hid (∀ ma mc dm w', MapIs w' dm K V m → MemsAt w' ma n N W D → Calls Try.prog 10 #[.agg #[.string nm, .slice ma n mc, .int .i64 thr, .map dm, .int .i64 rej], .string dom] w' fun e w'' => e = .returned (.int .i64 thr) ∧ Below w'.heap.size w' w'') :=
        fun ma mc dm w' h _ => thr_def nm ma n mc m thr rej dm K V dom w' h HA.out.dn HSET.out ht1
      have TF : Hid (∀ ma mc dm w', MapIs w' dm K V m → MemsAt w' ma q N W D → Calls Try.prog 10 #[.agg #[.string nm, .slice ma q mc, .int .i64 thr, .map dm, .int .i64 rej], .string dom] w' fun e w'' => e = .returned (.int .i64 thr) ∧ Below w'.heap.size w' w'') :=
        fun ma mc dm w' h _ => thr_def nm ma q mc m thr rej dm K V dom w' h HA.out.dn HSET.out ht1
      have TB : Hid (∀ ma mc dm w', MapIs w' dm K V m → MemsAt w' ma (n - q) (fun j => N (q + j)) (fun j => W (q + j)) (fun j => D (q + j)) → Calls Try.prog 10 #[.agg #[.string nm, .slice ma (n - q) mc, .int .i64 thr, .map dm, .int .i64 rej], .string dom] w' fun e w'' => e = .returned (.int .i64 thr) ∧ Below w'.heap.size w' w'') :=
        fun ma mc dm w' h _ => thr_def nm ma (n - q) mc m thr rej dm K V dom w' h HA.out.dn HSET.out ht1
      clear HSET ht
      generalize (lastTo K V dom m).1 = t at *
      go_wp2_with fail
      refine (PW.out w (Below.refl _ _)).mono ?_
      rintro e w1 ⟨⟨ma0, mc0, dm0, rfl, hm0, hd0⟩, hb0⟩
      have HM0 : Hid (MemsAt w1 ma0 n N W D) := hm0
      have HD0 : Hid (MapIs w1 dm0 K V m) := hd0
      have HB1 : Hid (Below w.heap.size w w1) := hb0
      clear hm0 hd0 hb0
      go_wp2_with fail
      refine (TW.out ma0 mc0 dm0 w1 HD0.out HM0.out).mono ?_
      rintro e w2 ⟨rfl, hb0⟩
      have HB2 : Hid (Below w.heap.size w w2) := HB1.out.trans (hb0.mono HB1.out.size)
      clear hb0
      go_wp2_with fail
      refine (PF.out w2 HB2.out).mono ?_
      rintro e w3 ⟨⟨ma1, mc1, dm1, rfl, hm1, hd1⟩, hb1⟩
      have HM1 : Hid (MemsAt w3 ma1 q N W D) := hm1
      have HD1 : Hid (MapIs w3 dm1 K V m) := hd1
      have HB3 : Hid (Below w.heap.size w w3) := HB2.out.trans (hb1.mono HB2.out.size)
      clear hm1 hd1 hb1
      go_wp2_with fail
      refine (TF.out ma1 mc1 dm1 w3 HD1.out HM1.out).mono ?_
      rintro e w4 ⟨rfl, hb1⟩
      have HB4 : Hid (Below w.heap.size w w4) := HB3.out.trans (hb1.mono HB3.out.size)
      clear hb1
      go_wp2_with fail
      refine (PB.out w4 HB4.out).mono ?_
      rintro e w5 ⟨⟨ma2, mc2, dm2, rfl, hm2, hd2⟩, hb2⟩
      have HM2 : Hid (MemsAt w5 ma2 (n - q) (fun j => N (q + j)) (fun j => W (q + j)) (fun j => D (q + j))) := hm2
      have HD2 : Hid (MapIs w5 dm2 K V m) := hd2
      have HB5 : Hid (Below w.heap.size w w5) := HB4.out.trans (hb2.mono HB4.out.size)
      clear hm2 hd2 hb2
      go_wp2_with fail
      refine (TB.out ma2 mc2 dm2 w5 HD2.out HM2.out).mono ?_
      rintro e w6 ⟨rfl, hb2⟩
      have HB6 : Hid (Below w.heap.size w w6) := HB5.out.trans (hb2.mono HB5.out.size)
      clear hb2
      go_wp2
      go_ret
      exact ⟨rfl, HB6⟩
    case pos =>
      subst ht
      cases oka with
      | false =>
        clear HSET
        generalize (lastTo K V dom m).1 = t at *
        go_wp2
        go_ret
        exact ⟨rfl, Below.refl _ _⟩
      | true =>
      cases okb with
      | false =>
        clear HSET
        generalize (lastTo K V dom m).1 = t at *
        go_wp2
        go_ret
        exact ⟨rfl, Below.refl _ _⟩
      | true =>
        obtain ⟨ha, ha0, ha1⟩ := HKA.out rfl
        obtain ⟨hb, hb0, hb1⟩ := HKB.out rfl
        have HAE : Hid (sa = sumTo W D dom q) := ha
        have HBE : Hid (sb = sumTo (fun j => W (q + j)) (fun j => D (q + j)) dom (n - q)) := hb
        clear ha hb HKA HKB
        by_cases hab : 4611686018427387904 - sb < sa
        case pos =>
          clear HSET
          generalize (lastTo K V dom m).1 = t at *
          go_wp2
          go_ret
          exact ⟨rfl, Below.refl _ _⟩
        have HS : Hid (sumTo W D dom n = sa + sb) := by rw [HAE.out, HBE.out]; exact HSUM.out
        have TW : Hid (∀ ma mc dm w', MapIs w' dm K V m → MemsAt w' ma n N W D → Calls Try.prog 10 #[.agg #[.string nm, .slice ma n mc, .int .i64 0, .map dm, .int .i64 rej], .string dom] w' fun e w'' => e = .returned (.int .i64 ((sa + sb) / 2 + 1)) ∧ Below w'.heap.size w' w'') :=
          fun ma mc dm w' h h' => by rw [← HS.out]; exact thr_maj nm ma n mc m rej dm K N D V W dom w' h HA.out.dn HSET.out h' hn (by rw [HS.out]; omega) (by rw [HS.out]; omega)
        have TF : Hid (∀ ma mc dm w', MapIs w' dm K V m → MemsAt w' ma q N W D → Calls Try.prog 10 #[.agg #[.string nm, .slice ma q mc, .int .i64 0, .map dm, .int .i64 rej], .string dom] w' fun e w'' => e = .returned (.int .i64 (sa / 2 + 1)) ∧ Below w'.heap.size w' w'') :=
          fun ma mc dm w' h h' => by rw [HAE.out]; exact thr_maj nm ma q mc m rej dm K N D V W dom w' h HA.out.dn HSET.out h' (by omega) (by rw [← HAE.out]; omega) (by rw [← HAE.out]; omega)
        have TB : Hid (∀ ma mc dm w', MapIs w' dm K V m → MemsAt w' ma (n - q) (fun j => N (q + j)) (fun j => W (q + j)) (fun j => D (q + j)) → Calls Try.prog 10 #[.agg #[.string nm, .slice ma (n - q) mc, .int .i64 0, .map dm, .int .i64 rej], .string dom] w' fun e w'' => e = .returned (.int .i64 (sb / 2 + 1)) ∧ Below w'.heap.size w' w'') :=
          fun ma mc dm w' h h' => by rw [HBE.out]; exact thr_maj nm ma (n - q) mc m rej dm K (fun j => N (q + j)) (fun j => D (q + j)) V (fun j => W (q + j)) dom w' h HA.out.dn HSET.out h' (by omega) (by rw [← HBE.out]; omega) (by rw [← HBE.out]; omega)
        clear HSET HAE HBE HS HSUM
        generalize (lastTo K V dom m).1 = t at *
        go_wp2_with fail
        refine (PW.out w (Below.refl _ _)).mono ?_
        rintro e w1 ⟨⟨ma0, mc0, dm0, rfl, hm0, hd0⟩, hb0⟩
        have HM0 : Hid (MemsAt w1 ma0 n N W D) := hm0
        have HD0 : Hid (MapIs w1 dm0 K V m) := hd0
        have HB1 : Hid (Below w.heap.size w w1) := hb0
        clear hm0 hd0 hb0
        go_wp2_with fail
        refine (TW.out ma0 mc0 dm0 w1 HD0.out HM0.out).mono ?_
        rintro e w2 ⟨rfl, hb0⟩
        have HB2 : Hid (Below w.heap.size w w2) := HB1.out.trans (hb0.mono HB1.out.size)
        clear hb0
        go_wp2_with fail
        refine (PF.out w2 HB2.out).mono ?_
        rintro e w3 ⟨⟨ma1, mc1, dm1, rfl, hm1, hd1⟩, hb1⟩
        have HM1 : Hid (MemsAt w3 ma1 q N W D) := hm1
        have HD1 : Hid (MapIs w3 dm1 K V m) := hd1
        have HB3 : Hid (Below w.heap.size w w3) := HB2.out.trans (hb1.mono HB2.out.size)
        clear hm1 hd1 hb1
        go_wp2_with fail
        refine (TF.out ma1 mc1 dm1 w3 HD1.out HM1.out).mono ?_
        rintro e w4 ⟨rfl, hb1⟩
        have HB4 : Hid (Below w.heap.size w w4) := HB3.out.trans (hb1.mono HB3.out.size)
        clear hb1
        go_wp2_with fail
        refine (PB.out w4 HB4.out).mono ?_
        rintro e w5 ⟨⟨ma2, mc2, dm2, rfl, hm2, hd2⟩, hb2⟩
        have HM2 : Hid (MemsAt w5 ma2 (n - q) (fun j => N (q + j)) (fun j => W (q + j)) (fun j => D (q + j))) := hm2
        have HD2 : Hid (MapIs w5 dm2 K V m) := hd2
        have HB5 : Hid (Below w.heap.size w w5) := HB4.out.trans (hb2.mono HB4.out.size)
        clear hm2 hd2 hb2
        go_wp2_with fail
        refine (TB.out ma2 mc2 dm2 w5 HD2.out HM2.out).mono ?_
        rintro e w6 ⟨rfl, hb2⟩
        have HB6 : Hid (Below w.heap.size w w6) := HB5.out.trans (hb2.mono HB5.out.size)
        clear hb2
        have hcut := half_cut sa sb
        by_cases h1 : sa % 2 = 1
        case neg =>
          have h1' : (sa % 2 == 1) = false := beq_eq_false_iff_ne.2 h1
          rw [if_neg (fun h => h1 h.1)] at hcut
          have hfin : ((sa + sb) / 2 + 1 == sa / 2 + 1 + (sb / 2 + 1) - 1) = true := beq_iff_eq.2 (by omega)
          clear hcut h1
          go_wp2
          go_ret
          exact ⟨rfl, HB6⟩
        case pos =>
          have h1' : (sa % 2 == 1) = true := beq_iff_eq.2 h1
          by_cases h2 : sb % 2 = 1
          case neg =>
            have h2' : (sb % 2 == 1) = false := beq_eq_false_iff_ne.2 h2
            rw [if_neg (fun h => h2 h.2)] at hcut
            have hfin : ((sa + sb) / 2 + 1 == sa / 2 + 1 + (sb / 2 + 1) - 1) = true := beq_iff_eq.2 (by omega)
            clear hcut h1 h2
            go_wp2
            go_ret
            exact ⟨rfl, HB6⟩
          case pos =>
            have h2' : (sb % 2 == 1) = true := beq_iff_eq.2 h2
            rw [if_pos ⟨h1, h2⟩] at hcut
            have hfin : ((sa + sb) / 2 + 1 == sa / 2 + 1 + (sb / 2 + 1)) = true := beq_iff_eq.2 (by omega)
            clear hcut h1 h2
            go_wp2
            go_ret
            exact ⟨rfl, HB6⟩

end Go.Proofs.Qxb6628571a
