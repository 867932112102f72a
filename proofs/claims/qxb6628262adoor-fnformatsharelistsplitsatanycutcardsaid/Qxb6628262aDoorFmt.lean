/-
  SEAT b6628262aD: THE WALK OVER 'ringwalk.FormatShareList' (function 6), out of the contracts of strconv.Itoa (9) and strings.Join (10), which are taken as hypotheses here and paid in another text.
-/
import Derived.Test.Qxb6628262aDoorRows
import Derived.Test.Qxb6628262aDoorPlain
import Derived.WalkKit
import Derived.WalkSpells
import Derived.WalkLawsBesides
import Derived.Deep.OwnRows
import Derived.Lib.LaidTab
import Derived.Lib.ItoaMem
namespace Go.Proofs.Qxb6628262aDoor
open Go.RowKit Go.Lib

/-- The table that strconv.Itoa reads. -/
def tabName : String := Rows.fnFormatShareListSplitsAtAnyCutRow.named.headD ""
def Tab (w : World) : Prop := Lib.TabIs Tryd.prog w tabName .u64 Lib.pow10Tab
theorem Tab.later {w w' : World} (h : Tab w) (hb : Below w.heap.size w w') : Tab w' := by
  unfold Tab TabIs World.var? at *
  cases hg : Tryd.prog.globalNamed tabName with
  | none => simp [hg] at h
  | some g =>
    simp only [hg, Option.bind_some] at h ⊢
    have hlt : g < w.heap.size := by
      rcases Nat.lt_or_ge g w.heap.size with h' | h'
      · exact h'
      · rw [Array.getElem?_eq_none h'] at h; simp at h
    rw [hb.block g hlt]
    exact h

def ItoaSaid : Prop := ∀ (n : Int) (w : World), -9223372036854775808 ≤ n → n ≤ 9223372036854775807 → Tab w →
  Calls Tryd.prog 9 #[.int .i64 n] w fun e w' => e = .returned (.string ⟨(Lib.itoa n).toArray⟩) ∧ Below w.heap.size w w'

def JoinSaid : Prop := ∀ (b c : Nat) (xs : List ByteArray) (w : World), (∀ (j : Nat) x, xs[j]? = some x → w.cell? ⟨b, j, none⟩ = some (.string x)) → b < w.heap.size → xs.length ≤ 131072 → xs.length ≤ c →
  (Lib.join (xs.map (·.data.toList)) [44]).length ≤ 140737488355328 →
  Calls Tryd.prog 10 #[.slice (some ⟨b, 0, none⟩) xs.length c, .string ⟨#[44]⟩] w fun e w' => e = .returned (.string ⟨(Lib.join (xs.map (·.data.toList)) [44]).toArray⟩) ∧ Below w.heap.size w w'

theorem Tryd.info9 : (Tryd.prog.info? 9).map (fun i => (i.zero, i.size, i.bytes)) = some (some (.string ⟨#[]⟩), 1, 16) := by kernel_rfl

/-- The numbers zs lie in w from place off of block b on. -/
def IntsAt (w : World) (b off : Nat) (zs : List Int) : Prop := ∀ j, j < zs.length → w.cell? ⟨b, off + j, none⟩ = some (.int .i64 (zs.getD j 0))
def InRange (zs : List Int) : Prop := ∀ z ∈ zs, -9223372036854775808 ≤ z ∧ z ≤ 9223372036854775807
theorem InRange.at {zs : List Int} (h : InRange zs) (j : Nat) : -9223372036854775808 ≤ zs.getD j 0 ∧ zs.getD j 0 ≤ 9223372036854775807 := by
  by_cases hj : j < zs.length
  · rw [List.getD_eq_getElem?_getD, List.getElem?_eq_getElem hj]; exact h _ (List.getElem_mem hj)
  · rw [List.getD_eq_getElem?_getD, List.getElem?_eq_none (by omega)]; simp

/-- What cell j of the new list holds when k numbers are written. -/
def strsOf (zs : List Int) (k : Nat) (j : Nat) : Value := if j < k then .string ⟨(Lib.itoa (zs.getD j 0)).toArray⟩ else .string ⟨#[]⟩

/-- The loop's relation. -/
structure FR (w : World) (zs : List Int) (k : Nat) (wr : World) : Prop where
  below : Below w.heap.size w wr
  row : wr.rowIs w.heap.size 9 zs.length (strsOf zs k)

theorem FR.start (w : World) (zs : List Int) : FR w zs 0 (w.alloc (.cells (madeCells #[.string ⟨#[]⟩] zs.length) 9)) :=
  ⟨(Below.refl _ _).alloc (Nat.le_refl _) _, (World.rowIs_made w _ _ 9).congr (fun i _ => by simp [strsOf])⟩

theorem FR.mid {w wr w1 : World} {zs : List Int} {k : Nat} (h : FR w zs k wr) (hb : Below wr.heap.size wr w1) : FR w zs k w1 :=
  ⟨h.below.trans (hb.mono h.below.size), h.row.of_block (hb.block _ h.row.lt)⟩

theorem FR.step {w w1 : World} {zs : List Int} {k : Nat} (h : FR w zs k w1) :
    FR w zs (k + 1) (w1.setCell ⟨w.heap.size, k, none⟩ (.string ⟨(Lib.itoa (zs.getD k 0)).toArray⟩)) :=
  ⟨h.below.setCell (Nat.le_refl _) _, (h.row.set k _).congr (fun j _ => by
    unfold strsOf
    by_cases e : j = k
    · subst e; simp
    · rw [if_neg e]
      by_cases hlt : j < k
      · rw [if_pos hlt, if_pos (by omega)]
      · rw [if_neg hlt, if_neg (by omega)])⟩

theorem FR.done {w wr : World} {zs : List Int} (h : FR w zs zs.length wr) (j : Nat) (x : ByteArray) (hx : (zs.map fun z => (⟨(Lib.itoa z).toArray⟩ : ByteArray))[j]? = some x) : wr.cell? ⟨w.heap.size, j, none⟩ = some (.string x) := by
  simp only [List.getElem?_map, Option.map_eq_some_iff] at hx
  obtain ⟨z, hz, rfl⟩ := hx
  have hj : j < zs.length := by
    rcases Nat.lt_or_ge j zs.length with h' | h'
    · exact h'
    · rw [List.getElem?_eq_none h'] at hz; cases hz
  rw [h.row.cell hj]
  unfold strsOf
  rw [if_pos hj, List.getD_eq_getElem?_getD, hz]
  rfl

theorem map_back (zs : List Int) : (zs.map fun z => (⟨(Lib.itoa z).toArray⟩ : ByteArray)).map (·.data.toList) = zs.map Lib.itoa := by
  rw [List.map_map]
  exact List.map_congr_left fun z _ => rfl

set_option maxHeartbeats 1000000 in
theorem fmt_calls (hI : ItoaSaid) (hJ : JoinSaid) (b off c : Nat) (zs : List Int) (w : World) (hb : b < w.heap.size) (hz : IntsAt w b off zs) (hr : InRange zs) (hlen : zs.length ≤ 131072) (htab : Tab w) :
    Calls Tryd.prog 6 #[.slice (some ⟨b, off, none⟩) zs.length c] w fun e w' => e = .returned (.string ⟨(fmtL zs).toArray⟩) ∧ Below w.heap.size w w' := by
  have hmk := run_make_row' (P := Tryd.prog) 27 9 (.string ⟨#[]⟩) 16 Tryd.underlying27 Tryd.info9 rfl .i64 .i64 zs.length (by omega) (by omega)
  have HZ : Hid (IntsAt w b off zs) := hz
  have HT : Hid (Tab w) := htab
  have HR : Hid (InRange zs) := hr
  clear hz htab hr
  generalize hn : zs.length = n at *
  have HN : Hid (zs.length = n) := hn
  clear hn
  go_enter Tryd.func6, Tryd.ntmps6
  go_wp2
  clear hmk
  go_loopw [11] (fun i wr => ∃ k : Nat, k ≤ n ∧ i = .int .i64 k ∧ Hid (FR w zs k wr)) (fun i _ => n - (intOf i).toNat)
  case atStart => exact ⟨0, Nat.zero_le _, rfl, by have := FR.start w zs; rw [HN.out] at this; exact this⟩
  case round =>
    obtain ⟨k, hk, rfl, HF⟩ := hrel
    by_cases hlt : k < n
    · have hcell : wr.cell? ⟨b, off + k, none⟩ = some (.int .i64 (zs.getD k 0)) := by
        rw [HF.out.below.cell (p := ⟨b, off + k, none⟩) hb]
        exact HZ.out k (by rw [HN.out]; exact hlt)
      have hrg := HR.out.at k
      generalize hv : zs.getD k 0 = v at *
      have HV : Hid (zs.getD k 0 = v) := hv
      clear hv
      go_wp2_with fail
      refine (hI v wr hrg.1 hrg.2 (HT.out.later HF.out.below)).mono ?_
      rintro e w1 ⟨rfl, hb1⟩
      have HM : Hid (FR w zs k w1) := HF.out.mid hb1
      have hc1 : w1.cell? ⟨w.heap.size, k, none⟩ = some (strsOf zs k k) := HM.out.row.cell (by rw [HN.out]; exact hlt)
      have hf1 : w1.frozen? ⟨w.heap.size, k, none⟩ = false := HM.out.row.frozen k
      clear hcell hb1 HF
      go_wp2
      go_roundw
      case rel => exact ⟨k + 1, by omega, by go_num, by have := HM.out.step; rw [HV.out] at this; exact this⟩
      case measure => simp [intOf]; omega
    · have hke : k = n := by omega
      subst hke
      go_wp2_with fail
      have hj := hJ w.heap.size zs.length (zs.map fun z => (⟨(Lib.itoa z).toArray⟩ : ByteArray)) wr (by have h := HF.out; rw [← HN.out] at h; exact h.done) HF.out.row.lt (by rw [List.length_map, HN.out]; exact hlen) (by rw [List.length_map]; exact Nat.le_refl _)
        (by rw [map_back]; have h := fmtL_length zs HR.out; unfold fmtL at h; rw [HN.out] at h; omega)
      rw [map_back, List.length_map, HN.out] at hj
      refine hj.mono ?_
      rintro e w1 ⟨rfl, hb1⟩
      have HB : Hid (Below w.heap.size w w1) := HF.out.below.trans (hb1.mono HF.out.below.size)
      clear hj hb1 HF
      go_wp2
      go_ret
      exact ⟨rfl, HB⟩

set_option maxHeartbeats 1000000 in
theorem fmt_none (hJ : JoinSaid) (a : Option Addr) (c : Nat) (w : World) :
    Calls Tryd.prog 6 #[.slice a 0 c] w fun e w' => e = .returned (.string ⟨(fmtL []).toArray⟩) ∧ Below w.heap.size w w' := by
  have hmk : ∀ w, (Instr.makeSlice 27 (.int .i64 0) (.int .i64 0)).run Tryd.prog w = .ok (.slice (some ⟨w.heap.size, 0, none⟩) 0 0) (w.alloc (.cells (madeCells #[.string ⟨#[]⟩] 0) 9)) :=
    run_make_row' (P := Tryd.prog) 27 9 (.string ⟨#[]⟩) 16 Tryd.underlying27 Tryd.info9 rfl .i64 .i64 0 (by omega) (by omega)
  go_enter Tryd.func6, Tryd.ntmps6
  go_wp2
  clear hmk
  go_loopw [11] (fun i wr => i = .int .i64 0 ∧ Hid (FR w [] 0 wr)) (fun i _ => 0)
  case atStart => exact ⟨rfl, FR.start w []⟩
  case round =>
    obtain ⟨rfl, HF⟩ := hrel
    go_wp2_with fail
    have hj := hJ w.heap.size 0 [] wr (by intro j x hx; simp at hx) HF.out.row.lt (by simp) (by simp) (by simp [Lib.join_nil])
    refine hj.mono ?_
    rintro e w1 ⟨rfl, hb1⟩
    have HB : Hid (Below w.heap.size w w1) := HF.out.below.trans (hb1.mono HF.out.below.size)
    clear hj hb1 HF
    go_wp2
    go_ret
    exact ⟨rfl, HB⟩

/-- BOTH IN ONE: a slice whose numbers are zs, wherever it lies. -/
def SliceIs (w : World) (a : Option Addr) (zs : List Int) : Prop := zs = [] ∨ ∃ b off, a = some ⟨b, off, none⟩ ∧ b < w.heap.size ∧ IntsAt w b off zs
theorem fmt_any (hI : ItoaSaid) (hJ : JoinSaid) (a : Option Addr) (n c : Nat) (zs : List Int) (w : World) (hn : n = zs.length) (hs : SliceIs w a zs) (hr : InRange zs) (hlen : zs.length ≤ 131072) (htab : Tab w) :
    Calls Tryd.prog 6 #[.slice a n c] w fun e w' => e = .returned (.string ⟨(fmtL zs).toArray⟩) ∧ Below w.heap.size w w' := by
  subst hn
  rcases hs with rfl | ⟨b, off, rfl, hb, hz⟩
  · exact fmt_none hJ a c w
  · exact fmt_calls hI hJ b off c zs w hb hz hr hlen htab
end Go.Proofs.Qxb6628262aDoor
