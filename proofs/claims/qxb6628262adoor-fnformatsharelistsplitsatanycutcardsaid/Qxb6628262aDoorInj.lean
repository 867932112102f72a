/-
  SEAT b6628262aD: THE WALK OVER 'FnFormatShareListIsInjective' (function 4).
-/
import Derived.Test.Qxb6628262aDoorFmt
import Derived.Deep.DeepCutAuto
import Derived.Deep.QuietTactic
import Derived.BigQuiet
import Derived.Laws.CopyOwn
namespace Go.Proofs.Qxb6628262aDoor
open Go.RowKit Go.Lib

theorem Tryd.info3 : (Tryd.prog.info? 3).map (fun i => (i.zero, i.size, i.bytes)) = some (some (.int .i64 0), 1, 8) := by kernel_rfl
theorem Tryd.size3 : (Tryd.prog.info? 3).map (·.size) = some 1 := by kernel_rfl

set_option maxHeartbeats 400000 in
theorem bytes8 (a b : Option Addr) (n c m d : Nat) (w : World) :
    Calls Tryd.prog 8 #[.slice a n c, .slice b m d] w fun e w' => ∃ v, e = .returned (.bool v) ∧ w = w' := by
  go_enter Tryd.func8, Tryd.ntmps8
  go_wp2
  all_goals (go_ret; exact ⟨_, rfl, rfl⟩)

set_option maxHeartbeats 400000 in
theorem bytes5 (a : Option Addr) (n c : Nat) (k : Int) (w : World) :
    Calls Tryd.prog 5 #[.slice a n c, .int .i64 k] w fun e w' => ∃ v, e = .returned (.bool v) ∧ w = w' := by
  go_enter Tryd.func5, Tryd.ntmps5
  go_wp2
  all_goals (go_ret; exact ⟨_, rfl, rfl⟩)

/-! ### A copy of the numbers in a new block -/
def cellsOfInts (zs : List Int) : List Value := zs.map (Value.int .i64)
def zeroCells (n : Nat) : List Value := List.replicate n (.int .i64 0)
theorem made_zero (n : Nat) : madeCells #[.int .i64 0] n = (zeroCells n).toArray := by
  apply Array.toList_inj.1
  rw [toList_madeCells_one]; rfl
theorem copied {w' : World} {g n : Nat} {zs : List Int} (hn : n = zs.length) (h : w'.heap[g]? = some (.cells (splice (zeroCells n) 0 (cellsOfInts zs)).toArray 3 (0, 0))) : SliceIs w' (some ⟨g, 0, none⟩) zs := by
  have hs : splice (zeroCells n) 0 (cellsOfInts zs) = cellsOfInts zs := by
    subst hn; simp [splice, zeroCells, cellsOfInts]
  rw [hs] at h
  refine .inr ⟨g, 0, rfl, ?_, fun j hj => ?_⟩
  · obtain ⟨hlt, _⟩ := Array.getElem?_eq_some_iff.1 h
    exact hlt
  · simp [World.cell?, h, cellsOfInts, List.getElem?_eq_getElem hj]
theorem oneCells (zs : List Int) : ∀ v ∈ cellsOfInts zs, v.oneCell' = true := by
  intro v hv
  obtain ⟨z, _, rfl⟩ := List.mem_map.1 hv
  rfl
theorem SliceIs.later {w w' : World} {a : Option Addr} {zs : List Int} (h : SliceIs w a zs) (hb : Below w.heap.size w w') : SliceIs w' a zs := by
  rcases h with h | ⟨b, off, ha, hlt, hz⟩
  · exact .inl h
  · exact .inr ⟨b, off, ha, Nat.lt_of_lt_of_le hlt hb.size, fun j hj => (hb.cell (p := ⟨b, off + j, none⟩) hlt).trans (hz j hj)⟩
theorem SliceIs.src {w : World} {a : Option Addr} {zs : List Int} (h : SliceIs w a zs) (o : Obj) (hp : 0 < (cellsOfInts zs).length) :
    ∃ ad, a = some ad ∧ ∀ j v, (cellsOfInts zs)[j]? = some v → (w.alloc o).cell? (ad.add j) = some v := by
  rcases h with rfl | ⟨b, off, rfl, hlt, hz⟩
  · simp [cellsOfInts] at hp
  · refine ⟨_, rfl, fun j v hv => ?_⟩
    simp only [cellsOfInts, List.getElem?_map, Option.map_eq_some_iff] at hv
    obtain ⟨z, hz', rfl⟩ := hv
    have hj : j < zs.length := by
      rcases Nat.lt_or_ge j zs.length with h' | h'
      · exact h'
      · rw [List.getElem?_eq_none h'] at hz'; cases hz'
    rw [Lib.add_plain, World.cell?_alloc_past _ _ _ hlt, hz j hj, List.getD_eq_getElem?_getD, hz']
    rfl

theorem copy_run {w : World} {a : Option Addr} {n c : Nat} {zs : List Int} (hn : n = zs.length) (h : SliceIs w a zs) :
    ∃ w2, (Builtin.copy_ #[22, 22] 3 #[.slice (some ⟨w.heap.size, 0, none⟩) n n, .slice a n c]).run Tryd.prog (w.alloc (.cells (zeroCells n).toArray 3)) = .ok (.int .i64 n) w2 ∧
      SliceIs w2 (some ⟨w.heap.size, 0, none⟩) zs ∧ Below w.heap.size w w2 := by
  have hb : Below w.heap.size w (w.alloc (.cells (zeroCells n).toArray 3)) := (Below.refl _ _).alloc (Nat.le_refl _) _
  by_cases h0 : n = 0
  · have hr := run_copy_none (P := Tryd.prog) (w.alloc (.cells (zeroCells n).toArray 3)) 22 22 3 3 (some ⟨w.heap.size, 0, none⟩) a n n n c Tryd.underlying22 Tryd.size3 (by rw [h0]; rfl)
    refine ⟨_, hr.trans (by rw [h0]; rfl), .inl (List.eq_nil_of_length_eq_zero (by omega)), hb⟩
  · have hl : (cellsOfInts zs).length = zs.length := by simp [cellsOfInts]
    obtain ⟨ad, rfl, hsrc⟩ := h.src (.cells (zeroCells n).toArray 3) (by omega)
    have hg : (w.alloc (.cells (zeroCells n).toArray 3)).heap[w.heap.size]? = some (.cells (zeroCells n).toArray 3 (0, 0)) := Deep.blk_alloc_new _ _
    have hr := run_copy_row (P := Tryd.prog) (w.alloc (.cells (zeroCells n).toArray 3)) 22 22 3 3 w.heap.size 0 n n ad n c (zeroCells n).toArray 3 (cellsOfInts zs) Tryd.underlying22 Tryd.size3 hg
      (by rw [hl, hn]; exact (Nat.min_self _).symm) hsrc (by rw [hl, ← hn]; simp [zeroCells]) (oneCells zs)
    refine ⟨_, hr.trans (by rw [hl, ← hn]; rfl), copied hn (n := n) ?_, below_setRow hb (Nat.le_refl _) _⟩
    refine (setRow_heap _ _ _ _ _ _ hg).trans ?_
    simp [splice, hl, hn]

theorem SliceIs.get {w : World} {a : Option Addr} {zs : List Int} (h : SliceIs w a zs) {k : Nat} (hk : k < zs.length) :
    ∃ b off, a = some ⟨b, off, none⟩ ∧ w.cell? ⟨b, off + k, none⟩ = some (.int .i64 (zs.getD k 0)) := by
  rcases h with rfl | ⟨b, off, ha, _, hz⟩
  · simp at hk
  · exact ⟨b, off, ha, hz k hk⟩
theorem take_succ_getD (zs : List Int) (k : Nat) (hk : k < zs.length) : zs.take (k + 1) = zs.take k ++ [zs.getD k 0] := by
  rw [List.take_add_one, List.getD_eq_getElem?_getD, List.getElem?_eq_getElem hk]; rfl
theorem take_ne {za zb : List Int} {k : Nat} (hne : za.getD k 0 ≠ zb.getD k 0) : za ≠ zb := by
  intro h; subst h; exact hne rfl
def sameB (za zb : List Int) : Bool := decide (za = zb)
theorem below_drewN {B : Nat} {a w : World} (h : Below B a w) (k : Nat) : Below B a (w.drewN k) := ⟨h.os, h.tape, h.output, h.size, h.block⟩
theorem below_own_drewN (w : World) (k : Nat) : Below w.heap.size w (w.drewN k) := ⟨rfl, rfl, rfl, Nat.le_refl _, fun _ _ => rfl⟩

theorem fmt_same (za zb : List Int) : ((fmtL za == fmtL zb) == sameB za zb) = true := by
  unfold sameB
  by_cases h : za = zb
  · subst h; simp
  · have : fmtL za ≠ fmtL zb := fun e => h (fmtL_inj _ _ e)
    simp [h, this]
theorem commas_le (l : List UInt8) : commas l ≤ l.length := List.countP_le_length
theorem commas_snoc (S : ByteArray) (k : Nat) (h : k < S.size) : commas (S.data.toList.take (k + 1)) = commas (S.data.toList.take k) + if ((S[k].toNat : Int) == 44) = true then 1 else 0 := by
  have e : S.data.toList.take (k + 1) = S.data.toList.take k ++ [S[k]] := by
    rw [List.take_succ_eq_append_getElem (by simpa using h)]; rfl
  have e2 : (S[k] == 44) = ((S[k].toNat : Int) == 44) := by
    rw [Bool.eq_iff_iff, beq_iff_eq, beq_iff_eq]
    constructor
    · intro h; rw [h]; rfl
    · intro h; apply UInt8.toNat_inj.1; show S[k].toNat = 44; omega
  rw [e, commas_append]
  unfold commas
  rw [List.countP_singleton, e2]

set_option maxHeartbeats 1000000 in
set_option maxRecDepth 100000 in
theorem inj_walk (hI : ItoaSaid) (hJ : JoinSaid) (a b : Option Addr) (n c m d : Nat) (za zb : List Int) (w : World) (hn : n = za.length) (hm : m = zb.length)
    (ha : SliceIs w a za) (hb : SliceIs w b zb) (hra : InRange za) (hrb : InRange zb) (htab : Tab w) (hnb : n ≤ 9223372036854775807) (hmb : m ≤ 9223372036854775807) :
    Calls Tryd.prog 4 #[.slice a n c, .slice b m d] w fun e w' => e = .returned (.bool true) ∧ Below w.heap.size w w' := by
  have HA : Hid (SliceIs w a za) := ha
  have HB : Hid (SliceIs w b zb) := hb
  have HRA : Hid (InRange za) := hra
  have HRB : Hid (InRange zb) := hrb
  have HT : Hid (Tab w) := htab
  have HN : Hid (n = za.length) := hn
  have HM : Hid (m = zb.length) := hm
  clear ha hb hra hrb htab hn hm
  have hnil := fun w a n c => run_neq_slice_nil_any (P := Tryd.prog) w 22 3 a n c 0 0 Tryd.underlying22
  go_enter Tryd.func4, Tryd.ntmps4
  go_wp2_with fail
  refine (bytes8 _ _ _ _ _ _ _).mono ?_
  rintro e w' ⟨v, rfl, rfl⟩
  cases v with
  | false =>
    go_wp2
    go_ret
    exact ⟨rfl, Below.refl _ _⟩
  | true =>
  by_cases h1 : n ≤ 65536
  case neg =>
    have h1' : (65536 : Int) < (n : Int) := by omega
    go_wp2
    go_ret
    exact ⟨rfl, Below.refl _ _⟩
  by_cases h2 : m ≤ 65536
  case neg =>
    have h1' : ¬ (65536 : Int) < (n : Int) := by omega
    have h2' : (65536 : Int) < (m : Int) := by omega
    go_wp2
    go_ret
    exact ⟨rfl, Below.refl _ _⟩
  have h1' : ¬ (65536 : Int) < (n : Int) := by omega
  have h2' : ¬ (65536 : Int) < (m : Int) := by omega
  go_upto_if 25 with fail
  go_cut [0] (fun s wc => ∃ a' c', s = .slice a' n c' ∧ Hid (SliceIs wc a' za) ∧ Hid (Below w.heap.size w wc))
  case first =>
    cases a with
    | none =>
      go_wp2
      go_meet
      case rel => exact ⟨none, c, rfl, HA, Below.refl _ _⟩
    | some x =>
      have hmk := run_make_row' (P := Tryd.prog) 22 3 (.int .i64 0) 8 Tryd.underlying22 Tryd.info3 rfl .i64 .i64 n (by omega) (by omega)
      rw [made_zero] at hmk
      obtain ⟨w2, hcp, hs2, hb2⟩ := copy_run (c := c) HN.out HA.out
      have HS2 : Hid (SliceIs w2 (some ⟨w.heap.size, 0, none⟩) za) := hs2
      have HB2 : Hid (Below w.heap.size w w2) := hb2
      clear hs2 hb2
      go_wp2
      go_meet
      case rel => exact ⟨_, n, rfl, HS2, HB2⟩
  case rest =>
    obtain ⟨a', c', rfl, HA1, HB1⟩ := hcut
    clear HA
    have HB' : Hid (SliceIs wc b zb) := HB.out.later HB1.out
    have HT1 : Hid (Tab wc) := HT.out.later HB1.out
    clear HB HT
    go_upto_if 34 with fail
    go_cut [1] (fun s wd => ∃ b' d', s = .slice b' m d' ∧ Hid (SliceIs wd b' zb) ∧ Hid (Below wc.heap.size wc wd))
    case first =>
      cases b with
      | none =>
        go_wp2
        go_meet
        case rel => exact ⟨none, d, rfl, HB', Below.refl _ _⟩
      | some x =>
        have hmk := run_make_row' (P := Tryd.prog) 22 3 (.int .i64 0) 8 Tryd.underlying22 Tryd.info3 rfl .i64 .i64 m (by omega) (by omega)
        rw [made_zero] at hmk
        obtain ⟨w2, hcp, hs2, hb2⟩ := copy_run (c := d) HM.out HB'.out
        have HS2 : Hid (SliceIs w2 (some ⟨wc.heap.size, 0, none⟩) zb) := hs2
        have HB2 : Hid (Below wc.heap.size wc w2) := hb2
        clear hs2 hb2
        go_wp2
        go_meet
        case rel => exact ⟨_, m, rfl, HS2, HB2⟩
    case rest =>
      obtain ⟨b', d', rfl, HBd, HBelow⟩ := hcut
      have HA2 : Hid (SliceIs wc a' za) := HA1.out.later HBelow.out
      have HT2 : Hid (Tab wc) := HT1.out.later HBelow.out
      have HW2 : Hid (Below w.heap.size w wc) := HB1.out.trans (HBelow.out.mono HB1.out.size)
      clear HA1 HT1 HB1 HBelow HB'
      go_wp2_with fail
      refine (fmt_any hI hJ a' n c' za wc HN.out HA2.out HRA.out (by rw [← HN.out]; omega) HT2.out).mono ?_
      rintro e w3 ⟨rfl, hb3⟩
      have HB3 : Hid (SliceIs w3 b' zb) := HBd.out.later hb3
      have HA3 : Hid (SliceIs w3 a' za) := HA2.out.later hb3
      have HT3 : Hid (Tab w3) := HT2.out.later hb3
      have HW3 : Hid (Below w.heap.size w w3) := HW2.out.trans (hb3.mono HW2.out.size)
      clear HA2 HT2 HBd HW2 hb3
      go_wp2_with fail
      refine (fmt_any hI hJ b' m d' zb w3 HM.out HB3.out HRB.out (by rw [← HM.out]; omega) HT3.out).mono ?_
      rintro e w4 ⟨rfl, hb4⟩
      have HB4 : Hid (SliceIs w4 b' zb) := HB3.out.later hb4
      have HA4 : Hid (SliceIs w4 a' za) := HA3.out.later hb4
      have HW4 : Hid (Below w.heap.size w w4) := HW3.out.trans (hb4.mono HW3.out.size)
      clear HA3 HT3 HB3 HW3 hb4
      go_upto_if 51 with fail
      go_cut [9, 10] (fun s _ wd => s = .bool (sameB za zb) ∧ Hid (Below w.heap.size w wd))
      case first =>
        by_cases hnm : n = m
        case neg =>
          have hnm' : ((n : Int) == (m : Int)) = false := beq_eq_false_iff_ne.2 (by omega)
          have HS : Hid (sameB za zb = false) := by
            have : za ≠ zb := by intro h; apply hnm; rw [HN.out, HM.out, h]
            simp [Hid, sameB, this]
          go_wp2
          go_meet
          case rel => exact ⟨by rw [HS.out, hnm'], HW4⟩
        case pos =>
          have hnm' : ((n : Int) == (m : Int)) = true := beq_iff_eq.2 (by omega)
          have hnm1 : n ≤ m := by omega
          have hnm2 : m ≤ n := by omega
          clear hnm
          go_wp2
          go_loopw [9, 10] (fun s i wr => ∃ k : Nat, k ≤ n ∧ i = .int .i64 k ∧ s = .bool true ∧ Hid (za.take k = zb.take k) ∧ Hid (Below w.heap.size w wr) ∧ Hid (SliceIs wr a' za) ∧ Hid (SliceIs wr b' zb)) (fun _ i _ => n - (intOf i).toNat)
          case atStart => exact ⟨0, Nat.zero_le _, rfl, by first | rfl | rw [hnm'], by simp [Hid], HW4, HA4, HB4⟩
          case round =>
            obtain ⟨k, hk, rfl, rfl, HK, HWr, HAr, HBr⟩ := hrel
            clear HA4 HB4 HW4
            by_cases hlt : k < n
            · have hla : k < za.length := by rw [← HN.out]; exact hlt
              have hlb : k < zb.length := by rw [← HM.out]; omega
              obtain ⟨ba, oa, rfl, hca⟩ := HAr.out.get hla
              obtain ⟨bb, ob, rfl, hcb⟩ := HBr.out.get hlb
              have HLA : Hid (k < za.length) := hla
              have HLB : Hid (k < zb.length) := hlb
              clear hla hlb
              have hkn : (k : Int) < (n : Int) := by omega
              have hkm : (k : Int) < (m : Int) := by omega
              generalize hx : za.getD k 0 = x at *
              generalize hy : zb.getD k 0 = y at *
              have HX : Hid (za.getD k 0 = x) := hx
              have HY : Hid (zb.getD k 0 = y) := hy
              clear hx hy
              by_cases hxy : x = y
              · have hxy' : (x != y) = false := by simp [hxy]
                have HXY : Hid (x = y) := hxy
                clear hxy
                go_wp2
                go_quiet (fail)
                go_wp2
                go_roundw
                case rel => exact ⟨k + 1, by omega, by go_num, rfl, by show _ = _; rw [take_succ_getD _ _ HLA.out, take_succ_getD _ _ HLB.out, HK.out, HX.out, HY.out, HXY.out], below_drewN HWr.out _, HAr.out.later (below_own_drewN _ _), HBr.out.later (below_own_drewN _ _)⟩
                case measure => simp [intOf]; omega
              · have hxy' : (x != y) = true := by simp [hxy]
                have HS : Hid (sameB za zb = false) := by
                  have : za ≠ zb := take_ne (k := k) (by rw [HX.out, HY.out]; exact hxy)
                  simp [Hid, sameB, this]
                clear hxy
                go_wp2
                go_quiet (fail)
                go_wp2
                go_meet
                case rel => exact ⟨by rw [HS.out], below_drewN HWr.out _⟩
            · have HS : Hid (sameB za zb = true) := by
                have h := HK.out
                rw [List.take_of_length_le (by rw [← HN.out]; omega), List.take_of_length_le (by rw [← HM.out]; omega)] at h
                simp [Hid, sameB, h]
              go_wp2
              go_meet
              case rel => exact ⟨by rw [HS.out], HWr⟩
      case rest =>
        obtain ⟨rfl, HWd⟩ := hcut
        clear HA4 HB4 HW4
        have hEq := fmt_same za zb
        go_upto_if 71 with fail
        have HC : Hid (commas (fmtL za) = n - 1) := by show _ = _; rw [commas_fmtL, HN.out]
        have HL : Hid ((fmtL za).length ≤ 1441792) := by have := fmtL_length za HRA.out; rw [← HN.out] at this; show _ ≤ _; omega
        generalize fmtL za = fa at *
        generalize hS : (⟨fa.toArray⟩ : ByteArray) = S at *
        have HS : Hid (S.data.toList = fa) := by rw [← hS]; rfl
        have hsz : S.size ≤ 1441792 := by have h := HL.out; rw [← HS.out] at h; simpa using h
        clear hS HL
        go_wp2
        clear hEq
        go_loop [11, 12] (fun t i => ∃ k : Nat, k ≤ S.size ∧ i = .int .i64 k ∧ t = .int .i64 (commas (S.data.toList.take k))) (fun _ i => S.size - (intOf i).toNat)
        case atStart => exact ⟨0, Nat.zero_le _, rfl, rfl⟩
        case round =>
          obtain ⟨k, hk, rfl, rfl⟩ := hrel
          have hcl := commas_le (S.data.toList.take k)
          have hle : (S.data.toList.take k).length ≤ k := List.length_take_le _ _
          by_cases hlt : k < S.size
          · have HSN : Hid _ := commas_snoc S k hlt
            generalize hq : commas (S.data.toList.take k) = q at *
            clear hq
            have hq1 : q ≤ 1441792 := by omega
            clear hcl hle
            by_cases hc : ((S[k].toNat : Int) == 44) = true
            · go_wp2
              go_round
              case rel => exact ⟨k + 1, by omega, by go_num, by rw [HSN.out, if_pos hc]; go_num⟩
              case measure => simp [intOf]; omega
            · have hc' : ((S[k].toNat : Int) == 44) = false := by simpa using hc
              go_wp2
              go_round
              case rel => exact ⟨k + 1, by omega, by go_num, by rw [HSN.out, if_neg hc]; go_num⟩
              case measure => simp [intOf]; omega
          · have HQ : Hid (commas (S.data.toList.take k) = n - 1) := by
              show _ = _
              rw [List.take_of_length_le (by simp; omega), HS.out]; exact HC.out
            generalize commas (S.data.toList.take k) = q at *
            have hq1 : q ≤ 1441792 := by omega
            clear hcl hle
            by_cases hn0 : 0 < n
            · have hfin : ((q : Int) == (n : Int) - 1) = true := beq_iff_eq.2 (by have := HQ.out; omega)
              go_wp2
              go_ret
              exact ⟨rfl, HWd⟩
            · have hfin : ((q : Int) == 0) = true := beq_iff_eq.2 (by have := HQ.out; omega)
              go_wp2
              go_ret
              exact ⟨rfl, HWd⟩

end Go.Proofs.Qxb6628262aDoor
