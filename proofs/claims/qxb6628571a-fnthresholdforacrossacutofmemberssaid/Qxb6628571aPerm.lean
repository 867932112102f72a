/-
  SEAT b6628571a: THE WALK OVER zzPerm (function 9): the permission that the arguments make.
-/
import Derived.Test.Qxb6628571aReads
import Derived.Deep.DeepCutAuto
import Derived.BigRegion
import Derived.Laws.ResultCell
namespace Go.Proofs.Qxb6628571a
open Go.RowKit

/-- What cell t of the new row of members holds when k of them are written. -/
def memF (N : Nat → ByteArray) (W : Nat → Int) (D : Nat → ByteArray) (k t : Nat) : Value :=
  if t / 3 < k then (if t % 3 = 0 then .string (N (t / 3)) else if t % 3 = 1 then .int .i64 (W (t / 3)) else .string (D (t / 3)))
  else (if t % 3 = 1 then .int .i64 0 else .string ⟨#[]⟩)

def zero3 : Array Value := #[.string ⟨#[]⟩, .int .i64 0, .string ⟨#[]⟩]
theorem Try.info39 : (Try.prog.info? 39).map (fun i => (i.zero, i.size, i.bytes)) = some (some (.agg zero3), 3, 40) := by kernel_rfl

theorem make_mems (n : Nat) (hn : n ≤ 1048576) (w : World) :
    (Instr.makeSlice 30 (.int .i64 (n : Int)) (.int .i64 (n : Int))).run Try.prog w = .ok (.slice (some ⟨w.heap.size, 0, none⟩) n n) (w.alloc (.cells (madeCells zero3 (n * 3)) 39)) := by
  obtain ⟨i, hi, hzz⟩ := Option.map_eq_some_iff.1 Try.info39
  simp only [Prod.mk.injEq] at hzz
  obtain ⟨hz, hs, hb⟩ := hzz
  have hr := run_make (P := Try.prog) w 30 39 i (.agg zero3) Try.underlying30 hi hz .i64 .i64 n n (by omega) (Int.le_refl _) (by rw [hb]; omega) (by omega)
  simp only [Int.toNat_natCast, hs] at hr
  exact hr

theorem make_map (m : Nat) (w : World) : (Instr.makeMap 31 (some (.int .i64 (m : Int)))).run Try.prog w = .ok (.map (some w.heap.size)) (w.alloc (.map #[] 0)) := by
  simp [Instr.makeMap, run_underlying Try.underlying31, asInt, asIntOf, Result.andThen]

/-- The new row of members, k of them written. -/
structure PR (w0 : World) (N : Nat → ByteArray) (W : Nat → Int) (D : Nat → ByteArray) (n k : Nat) (wr : World) : Prop where
  below : Below w0.heap.size w0 wr
  row : wr.rowIs w0.heap.size 39 (n * 3) (memF N W D k)

theorem PR.start (w0 : World) (N : Nat → ByteArray) (W : Nat → Int) (D : Nat → ByteArray) (n : Nat) : PR w0 N W D n 0 (w0.alloc (.cells (madeCells zero3 (n * 3)) 39)) := by
  refine ⟨(Below.refl _ _).alloc (Nat.le_refl _) _, ⟨_, Deep.blk_alloc_new _ _, size_madeCells _ _, fun i hi => ?_⟩⟩
  have h3 : zero3.size = 3 := rfl
  simp only [madeCells, Array.getElem?_map, Array.getElem?_range, hi, if_true, Option.map_some, h3]
  unfold memF
  rw [if_neg (by omega)]
  have hm : i % 3 < 3 := Nat.mod_lt _ (by omega)
  generalize i % 3 = q at *
  match q, hm with
  | 0, _ => rfl
  | 1, _ => rfl
  | 2, _ => rfl

theorem memF_step (N : Nat → ByteArray) (W : Nat → Int) (D : Nat → ByteArray) (k j : Nat) :
    (if j = k * 3 + 2 then Value.string (D k) else if j = k * 3 + 1 then .int .i64 (W k) else if j = k * 3 then .string (N k) else memF N W D k j) = memF N W D (k + 1) j := by
  unfold memF
  by_cases h2 : j = k * 3 + 2
  · rw [if_pos h2, if_pos (by omega), if_neg (by omega), if_neg (by omega), show j / 3 = k by omega]
  · rw [if_neg h2]
    by_cases h1 : j = k * 3 + 1
    · rw [if_pos h1, if_pos (by omega), if_neg (by omega), if_pos (by omega), show j / 3 = k by omega]
    · rw [if_neg h1]
      by_cases h0 : j = k * 3
      · rw [if_pos h0, if_pos (by omega), if_pos (by omega), show j / 3 = k by omega]
      · rw [if_neg h0]
        by_cases hlt : j / 3 < k
        · rw [if_pos hlt, if_pos (show j / 3 < k + 1 by omega)]
        · rw [if_neg hlt, if_neg (show ¬ j / 3 < k + 1 by omega)]

theorem PR.step {w0 wr : World} {N D : Nat → ByteArray} {W : Nat → Int} {n k : Nat} (h : PR w0 N W D n k wr) :
    PR w0 N W D n (k + 1) (((wr.setCell ⟨w0.heap.size, k * 3, none⟩ (.string (N k))).setCell ⟨w0.heap.size, k * 3 + 1, none⟩ (.int .i64 (W k))).setCell ⟨w0.heap.size, k * 3 + 2, none⟩ (.string (D k))).drew :=
  ⟨(((h.below.setCell (Nat.le_refl _) _).setCell (Nat.le_refl _) _).setCell (Nat.le_refl _) _).drew,
    ((((h.row.set (k * 3) _).set (k * 3 + 1) _).set (k * 3 + 2) _).congr (fun j _ => memF_step N W D k j)).drew⟩

theorem PR.done {w0 wr : World} {N D : Nat → ByteArray} {W : Nat → Int} {n : Nat} (h : PR w0 N W D n n wr) : MemsAt wr (some ⟨w0.heap.size, 0, none⟩) n N W D := by
  refine .inr ⟨w0.heap.size, 0, rfl, h.row.lt, fun j hj => ⟨?_, ?_, ?_⟩⟩
  · rw [Nat.zero_add, h.row.cell (by omega)]
    unfold memF
    rw [if_pos (by omega), if_pos (by omega), show j * 3 / 3 = j by omega]
  · rw [Nat.zero_add, h.row.cell (by omega)]
    unfold memF
    rw [if_pos (by omega), if_neg (by omega), if_pos (by omega), show (j * 3 + 1) / 3 = j by omega]
  · rw [Nat.zero_add, h.row.cell (by omega)]
    unfold memF
    rw [if_pos (by omega), if_neg (by omega), if_neg (by omega), show (j * 3 + 2) / 3 = j by omega]

theorem law : Maps.Keyed Try.prog 9 := Maps.string_keyed Try.underlying9
theorem zero2 (w : World) : (zeroValue 2).run Try.prog w = .ok (.int .i64 0) w := by kernel_rfl

/-- The map that m pairs make, wherever it lies (nil where there are no pairs). -/
def MapIs (w : World) (dm : Option Nat) (K : Nat → ByteArray) (V : Nat → Int) (m : Nat) : Prop :=
  (dm = none ∧ m = 0) ∨ ∃ B, dm = some B ∧ w.ownsMap Try.prog 9 (plainElem Try.prog 2) B m (mapTo K V m)

theorem MapIs.later {w w' : World} {dm : Option Nat} {K : Nat → ByteArray} {V : Nat → Int} {m : Nat} (h : MapIs w dm K V m) (hb : Below w.heap.size w w') : MapIs w' dm K V m := by
  rcases h with h | ⟨B, rfl, ho⟩
  · exact .inl h
  · have hlt := ho.lt
    obtain ⟨es, clock, hB, r⟩ := ho
    exact .inr ⟨B, rfl, es, clock, (hb.block B hlt).trans hB, r⟩

/-- WHAT THE LOOK-UP ANSWERS. -/
theorem MapIs.look {w : World} {dm : Option Nat} {K : Nat → ByteArray} {V : Nat → Int} {m : Nat} (h : MapIs w dm K V m) (dom : ByteArray) (hd : dom.size ≤ maxLen) :
    (Instr.lookup 31 (.map dm) (.string dom) true).run Try.prog w = .ok (.tuple #[.int .i64 (lastTo K V dom m).1, .bool (lastTo K V dom m).2]) w := by
  have hkey : keyOf Try.prog 9 (.string dom) = some (.string dom.data.toList) := WideMaps.keyOf_string_mk Try.underlying9 hd
  rcases h with ⟨rfl, rfl⟩ | ⟨B, rfl, ho⟩
  · exact Maps.look_nil true law Try.underlying31 (zero2 w) hkey
  · obtain ⟨v, ps, hrun, hv⟩ := ho.look_ok law Try.underlying31 (zero2 w) (plainElem_int Try.underlying2 (by decide)) hkey
    obtain ⟨x, rfl, hx, _⟩ := plainElem_int_inv Try.underlying2 hv
    have hl := map_last K V dom m
    rw [hl.2] at hx
    simp only [Prod.mk.injEq, DataW.lit.injEq, Lit.int.injEq, true_and] at hx
    rw [hrun, hl.1, hx.1]

/-- The member row and the map lie elsewhere than the box that is written. -/
theorem MemsAt.setCell {w : World} {a : Option Addr} {n : Nat} {N D : Nat → ByteArray} {W : Nat → Int} (h : MemsAt w a n N W D) {B i : Nat} (hne : ∀ b off, a = some ⟨b, off, none⟩ → b ≠ B) (v : Value) : MemsAt (w.setCell ⟨B, i, none⟩ v) a n N W D := by
  rcases h with h | ⟨b, off, ha, hlt, hc⟩
  · exact .inl h
  · have hb := hne b off ha
    have hk : ∀ o, (w.setCell ⟨B, i, none⟩ v).cell? ⟨b, o, none⟩ = w.cell? ⟨b, o, none⟩ := fun o => World.cell?_of_block (w := w) (Below.heap_setCell w ⟨B, i, none⟩ v b hb)
    exact .inr ⟨b, off, ha, by simpa [World.setCell] using hlt, fun j hj => by rw [hk, hk, hk]; exact hc j hj⟩
theorem MapIs.setCell {w : World} {dm : Option Nat} {K : Nat → ByteArray} {V : Nat → Int} {m : Nat} (h : MapIs w dm K V m) {B i : Nat} (hne : dm ≠ some B) (v : Value) : MapIs (w.setCell ⟨B, i, none⟩ v) dm K V m := by
  rcases h with h | ⟨b, rfl, ho⟩
  · exact .inl h
  · exact .inr ⟨b, rfl, ho.setCell (a := ⟨B, i, none⟩) (fun e => hne (by rw [e])) v⟩

/-- WHAT zzPerm ANSWERS. -/
def PermOut (nm : ByteArray) (n m : Nat) (thr rej : Int) (N D K : Nat → ByteArray) (W V : Nat → Int) (e : Ending) (w' : World) : Prop :=
  ∃ ma mc dm, e = .returned (.agg #[.string nm, .slice ma n mc, .int .i64 thr, .map dm, .int .i64 rej]) ∧ MemsAt w' ma n N W D ∧ MapIs w' dm K V m

set_option maxHeartbeats 1000000 in
set_option maxRecDepth 100000 in
theorem perm_calls (nm : ByteArray) (a ka va : Option Addr) (n c m kc vc : Nat) (thr rej : Int) (N D K : Nat → ByteArray) (W V : Nat → Int) (w : World) (hm : MemsAt w a n N W D) (hk : StrsAt w ka m K) (hv : NumsAt w va m V)
    (hn : n ≤ 1048576) (hmm : m ≤ 1048576) (hnn : a = none → n = 0 ∧ c = 0) (hkn : ka = none → m = 0) (hks : ∀ j, (K j).size ≤ maxLen) (hvs : ∀ j, (Lit.int .i64 (V j)).wf = true) :
    Calls Try.prog 9 #[.string nm, .slice a n c, .int .i64 thr, .slice ka m kc, .slice va m vc, .int .i64 rej] w fun e w' => PermOut nm n m thr rej N D K W V e w' ∧ Below w.heap.size w w' := by
  have HM : Hid (MemsAt w a n N W D) := hm
  have HK : Hid (StrsAt w ka m K) := hk
  have HV : Hid (NumsAt w va m V) := hv
  have HNN : Hid (a = none → n = 0 ∧ c = 0) := hnn
  have HKN : Hid (ka = none → m = 0) := hkn
  have HKS : Hid (∀ j, (K j).size ≤ maxLen) := hks
  have HVS : Hid (∀ j, (Lit.int .i64 (V j)).wf = true) := hvs
  clear hm hk hv hnn hkn hks hvs
  have hnil := fun w a n c => run_neq_slice_nil_any (P := Try.prog) w 22 38 a n c 0 0 Try.underlying22
  have hnil2 := fun w a n c => run_neq_slice_nil_any (P := Try.prog) w 23 9 a n c 0 0 Try.underlying23
  go_enter Try.func9, Try.ntmps9
  go_upto_if 18 with fail
  have HB0 : Hid (Below w.heap.size w (w.alloc (.cells #[.string ⟨#[]⟩, .slice none 0 0, .int .i64 0, .map none, .int .i64 0] 33))) := (Below.refl _ _).alloc (Nat.le_refl _) _
  have HM0 : Hid (MemsAt (w.alloc (.cells #[.string ⟨#[]⟩, .slice none 0 0, .int .i64 0, .map none, .int .i64 0] 33)) a n N W D) := HM.out.later HB0.out
  have HX0 : Hid ((w.alloc (.cells #[.string ⟨#[]⟩, .slice none 0 0, .int .i64 0, .map none, .int .i64 0] 33)).heap[w.heap.size]? = some (.cells #[.string ⟨#[]⟩, .slice none 0 0, .int .i64 0, .map none, .int .i64 0] 33 (0, 0))) := Deep.blk_alloc_new _ _
  have HL0 : Hid (w.heap.size < (w.alloc (.cells #[.string ⟨#[]⟩, .slice none 0 0, .int .i64 0, .map none, .int .i64 0] 33)).heap.size) := by show _ < _; simp
  generalize w.alloc (.cells #[.string ⟨#[]⟩, .slice none 0 0, .int .i64 0, .map none, .int .i64 0] 33) = w0 at *
  go_cut [13, 14] (fun s _ wc => ∃ ma mc, s = .slice ma n mc ∧ Hid (MemsAt wc ma n N W D) ∧ Hid (Below w0.heap.size w0 wc) ∧ Hid (∀ b off, ma = some ⟨b, off, none⟩ → b ≠ w.heap.size))
  case first =>
    cases a with
    | none =>
      obtain ⟨rfl, rfl⟩ := HNN.out rfl
      go_wp2
      go_meet
      case rel => exact ⟨none, 0, rfl, .inl rfl, Below.refl _ _, by intro b off h; cases h⟩
    | some x =>
      have hmk := make_mems n hn
      go_wp2
      clear hmk
      go_loopw [14, 24] (fun _ i wr => ∃ k : Nat, k ≤ n ∧ i = .int .i64 k ∧ Hid (PR w0 N W D n k wr)) (fun _ i _ => n - (intOf i).toNat)
      case atStart => exact ⟨0, Nat.zero_le _, rfl, PR.start w0 N W D n⟩
      case round =>
        obtain ⟨k, hk, rfl, HP⟩ := hrel
        by_cases hlt : k < n
        · obtain ⟨b, off, hx, hc0, hc1, hc2⟩ := (HM0.out.later HP.out.below).get hlt
          obtain rfl : x = ⟨b, off, none⟩ := by simpa using hx
          clear hx
          have hkn : (k : Int) < (n : Int) := by omega
          have d0 := HP.out.row.cell (i := k * 3) (by omega)
          have d1 := HP.out.row.cell (i := k * 3 + 1) (by omega)
          have d2 := HP.out.row.cell (i := k * 3 + 2) (by omega)
          have f0 := HP.out.row.frozen (k * 3)
          have f1 := HP.out.row.frozen (k * 3 + 1)
          have f2 := HP.out.row.frozen (k * 3 + 2)
          generalize memF N W D k (k * 3) = x0 at *
          generalize memF N W D k (k * 3 + 1) = x1 at *
          generalize memF N W D k (k * 3 + 2) = x2 at *
          go_wp2
          go_region
          have HN : Hid (PR w0 N W D n (k + 1) _) := HP.out.step
          clear d0 d1 d2 f0 f1 f2 hc0 hc1 hc2
          go_wp2
          go_roundw
          case rel => exact ⟨k + 1, by omega, by go_num, HN⟩
          case measure => simp [intOf]; omega
        · obtain rfl : k = n := by omega
          go_wp2
          go_meet
          case rel => exact ⟨_, k, rfl, HP.out.done, HP.out.below, by intro b' off' h; injection h with h; injection h with h; have := HL0.out; omega⟩
  case rest =>
    obtain ⟨ma, mc, rfl, HMc, HBc, HMne⟩ := hcut
    have HLc : Hid (w.heap.size < wc.heap.size) := Nat.lt_of_lt_of_le HL0.out HBc.out.size
    have HXc : Hid (wc.heap[w.heap.size]? = some (.cells #[.string ⟨#[]⟩, .slice none 0 0, .int .i64 0, .map none, .int .i64 0] 33 (0, 0))) := (HBc.out.block _ HL0.out).trans HX0.out
    have HWc : Hid (Below w.heap.size w wc) := HB0.out.trans (HBc.out.mono HB0.out.size)
    have HKc : Hid (StrsAt wc ka m K) := (HK.out.later HB0.out).later HBc.out
    have HVc : Hid (NumsAt wc va m V) := (HV.out.later HB0.out).later HBc.out
    clear HM HM0 HNN HK HV hnil
    go_upto_if 48 with fail
    go_cut [15, 16] (fun s _ wd => ∃ dm, s = .map dm ∧ Hid (MapIs wd dm K V m) ∧ Hid (Below wc.heap.size wc wd) ∧ Hid (dm ≠ some w.heap.size))
    case first =>
      cases ka with
      | none =>
        obtain rfl := HKN.out rfl
        go_wp2
        go_meet
        case rel => exact ⟨none, rfl, .inl ⟨rfl, rfl⟩, Below.refl _ _, by intro h; cases h⟩
      | some x =>
        have hmk := make_map m
        go_wp2
        clear hmk
        go_loopw [16, 54] (fun _ i wr => ∃ k : Nat, k ≤ m ∧ i = .int .i64 k ∧ Hid (wr.ownsMap Try.prog 9 (plainElem Try.prog 2) wc.heap.size k (mapTo K V k)) ∧ Hid (Below wc.heap.size wc wr)) (fun _ i _ => m - (intOf i).toNat)
        case atStart => exact ⟨0, Nat.zero_le _, rfl, World.ownsMap_made _ _ _ _, (Below.refl _ _).alloc (Nat.le_refl _) _⟩
        case round =>
          obtain ⟨k, hk, rfl, HO, HW⟩ := hrel
          by_cases hlt : k < m
          · obtain ⟨bk, ok, hx, hck⟩ := (HKc.out.later HW.out).get hlt
            obtain rfl : x = ⟨bk, ok, none⟩ := by simpa using hx
            obtain ⟨bv, ov, rfl, hcv⟩ := (HVc.out.later HW.out).get hlt
            clear hx
            have hkm : (k : Int) < (m : Int) := by omega
            obtain ⟨w1, hrun, hown1, hturn1⟩ := (HO.out.drew).store law Try.underlying31 (by unfold maxLen; omega) (WideMaps.keyOf_string_mk Try.underlying9 (HKS.out k)) (plainElem_int Try.underlying2 (HVS.out k))
            have HO1 : Hid (w1.ownsMap Try.prog 9 (plainElem Try.prog 2) wc.heap.size (k + 1) (mapTo K V (k + 1))) := hown1
            have HW1 : Hid (Below wc.heap.size wc w1) := HW.out.drew.grown hturn1.grown HW.out.size (fun j hj => by cases hj; exact Nat.le_refl _)
            clear hown1 hturn1
            go_wp2
            go_region
            clear hrun hck hcv
            go_wp2
            go_roundw
            case rel => exact ⟨k + 1, by omega, by go_num, HO1, HW1⟩
            case measure => simp [intOf]; omega
          · obtain rfl : k = m := by omega
            go_wp2
            go_meet
            case rel => exact ⟨_, rfl, .inr ⟨_, rfl, HO⟩, HW, by intro h; injection h with h; have := HLc.out; omega⟩
    case rest =>
      obtain ⟨dm, rfl, HD, HBd, HDne⟩ := hcut
      have hX := (HBd.out.block _ HLc.out).trans HXc.out
      have HMd : Hid (MemsAt wc ma n N W D) := HMc.out.later HBd.out
      have HWd : Hid (Below w.heap.size w wc) := HWc.out.trans (HBd.out.mono HWc.out.size)
      clear HMc HBd HXc HWc HLc HKc HVc HX0 HL0 HB0 HBc
      have c0 : wc.cell? ⟨w.heap.size, 0, none⟩ = some (.string ⟨#[]⟩) := by simp [World.cell?, hX]
      have c1 : wc.cell? ⟨w.heap.size, 1, none⟩ = some (.slice none 0 0) := by simp [World.cell?, hX]
      have c2 : wc.cell? ⟨w.heap.size, 2, none⟩ = some (.int .i64 0) := by simp [World.cell?, hX]
      have c3 : wc.cell? ⟨w.heap.size, 3, none⟩ = some (.map none) := by simp [World.cell?, hX]
      have c4 : wc.cell? ⟨w.heap.size, 4, none⟩ = some (.int .i64 0) := by simp [World.cell?, hX]
      have f0 : wc.frozen? ⟨w.heap.size, 0, none⟩ = false := by simp [World.frozen?, hX]
      have f1 : wc.frozen? ⟨w.heap.size, 1, none⟩ = false := by simp [World.frozen?, hX]
      have f2 : wc.frozen? ⟨w.heap.size, 2, none⟩ = false := by simp [World.frozen?, hX]
      have f3 : wc.frozen? ⟨w.heap.size, 3, none⟩ = false := by simp [World.frozen?, hX]
      have f4 : wc.frozen? ⟨w.heap.size, 4, none⟩ = false := by simp [World.frozen?, hX]
      clear hX
      go_wp2
      refine bodyPost_ret (v := .agg #[.string nm, .slice ma n mc, .int .i64 thr, .map dm, .int .i64 rej]) (by simp [results, Try.results9, go_sem, c0, c1, c2, c3, c4]) rfl ⟨⟨ma, mc, dm, rfl, ?_, ?_⟩, ?_⟩
      · exact ((((HMd.out.setCell HMne.out _).setCell HMne.out _).setCell HMne.out _).setCell HMne.out _).setCell HMne.out _
      · exact ((((HD.out.setCell HDne.out _).setCell HDne.out _).setCell HDne.out _).setCell HDne.out _).setCell HDne.out _
      · exact ((((HWd.out.setCell (Nat.le_refl _) _).setCell (Nat.le_refl _) _).setCell (Nat.le_refl _) _).setCell (Nat.le_refl _) _).setCell (Nat.le_refl _) _

end Go.Proofs.Qxb6628571a
