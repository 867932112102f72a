/-
  SEAT b6630529a: THE COPY AND THE TWO APPENDS, AS EQUATIONS ON THEIR RUNS; ZZhighest (6); the plain law of the cut at this seat's rows.
-/
import Derived.Test.Qxb6630529aHigh
import Derived.Deep.DeepCutAuto
import Derived.Deep.QuietTactic
import Derived.BigQuiet
import Derived.Deep.RegionWith
import Derived.Laws.CopyOwn
import Derived.Lib.ItoaMem
namespace Go.Proofs.Qxb6630529a
open Go.RowKit

theorem Try.info23 : (Try.prog.info? 23).map (fun i => (i.zero, i.size, i.bytes)) = some (some (.int .u64 0), 1, 8) := by kernel_rfl
theorem Try.size23 : (Try.prog.info? 23).map (·.size) = some 1 := by kernel_rfl

theorem zz_calls (a : Option Addr) (n c : Nat) (k : Int) (Z : Nat → Int) (w : World) (hr : RowU w a n Z) (hn : n ≤ 131072) (hnc : n ≤ c) (hk : InU k) (hz : ∀ j, InU (Z j)) :
    Calls Try.prog 6 #[.slice a n c, .int .u64 k] w fun e w' => e = .returned (.int .i64 (bestTo (sco k Z) n)) ∧ w = w' := by
  have H := high_calls a n c k Z w hr hn hnc hk hz
  clear hr hk hz
  go_enter Try.func6, Try.ntmps6
  go_wp2_with fail
  refine H.mono ?_
  rintro e w' ⟨rfl, rfl⟩
  go_wp2
  go_ret
  exact ⟨rfl, rfl⟩

/-! ### The cells of a row -/
def cellsU (n : Nat) (Z : Nat → Int) : List Value := (List.range n).map fun j => .int .u64 (Z j)
theorem cellsU_length (n : Nat) (Z : Nat → Int) : (cellsU n Z).length = n := by simp [cellsU]
theorem cellsU_get {n : Nat} {Z : Nat → Int} {j : Nat} {v : Value} (h : (cellsU n Z)[j]? = some v) : j < n ∧ v = .int .u64 (Z j) := by
  have hj : j < n := by
    have := (List.getElem?_eq_some_iff.1 h).1
    rwa [cellsU_length] at this
  refine ⟨hj, ?_⟩
  simp [cellsU, hj] at h
  exact h.symm
theorem cellsU_one (n : Nat) (Z : Nat → Int) : ∀ v ∈ cellsU n Z, v.oneCell' = true := by
  intro v hv
  obtain ⟨z, _, rfl⟩ := List.mem_map.1 hv
  rfl
theorem RowU.src {w w' : World} {a : Option Addr} {n : Nat} {Z : Nat → Int} (h : RowU w a n Z) (hb : ∀ b o, b < w.heap.size → w'.cell? ⟨b, o, none⟩ = w.cell? ⟨b, o, none⟩) :
    ∀ ad, a = some ad → ∀ j v, (cellsU n Z)[j]? = some v → w'.cell? (ad.add j) = some v := by
  rintro ad rfl j v hv
  obtain ⟨hj, rfl⟩ := cellsU_get hv
  rcases h with h | ⟨b, off, ha, hlt, hc⟩
  · omega
  · obtain rfl : ad = ⟨b, off, none⟩ := by simpa using ha
    rw [Lib.add_plain, hb b _ hlt]
    exact hc j hj
theorem rowU_of_cells {w : World} {g : Nat} {t : TypeId} {cur : Array Value} {n : Nat} {Z : Nat → Int} (h : w.heap[g]? = some (.cells cur t (0, 0))) (ht : cur.toList.take n = cellsU n Z) : RowU w (some ⟨g, 0, none⟩) n Z := by
  refine .inr ⟨g, 0, rfl, (Array.getElem?_eq_some_iff.1 h).1, fun j hj => ?_⟩
  have e : cur.toList[j]? = some (.int .u64 (Z j)) := by
    have : (cur.toList.take n)[j]? = some (.int .u64 (Z j)) := by rw [ht]; simp [cellsU, hj]
    rwa [List.getElem?_take, if_pos hj] at this
  simp [World.cell?, h]
  simpa using e

/-! ### 'zzc := make([]uint64, len(a)); copy(zzc, a)' -/
def zerosU (n : Nat) : List Value := List.replicate n (.int .u64 0)
theorem made_zero (n : Nat) : madeCells #[.int .u64 0] n = (zerosU n).toArray := by
  apply Array.toList_inj.1
  rw [toList_madeCells_one]; rfl
theorem copy_run {w : World} {a : Option Addr} {n c : Nat} {Z : Nat → Int} (h : RowU w a n Z) :
    ∃ w2, (Builtin.copy_ #[22, 22] 3 #[.slice (some ⟨w.heap.size, 0, none⟩) n n, .slice a n c]).run Try.prog (w.alloc (.cells (zerosU n).toArray 23)) = .ok (.int .i64 n) w2 ∧
      RowU w2 (some ⟨w.heap.size, 0, none⟩) n Z ∧ Below w.heap.size w w2 := by
  have hb : Below w.heap.size w (w.alloc (.cells (zerosU n).toArray 23)) := (Below.refl _ _).alloc (Nat.le_refl _) _
  by_cases h0 : n = 0
  · have hr := run_copy_none (P := Try.prog) (w.alloc (.cells (zerosU n).toArray 23)) 22 22 3 23 (some ⟨w.heap.size, 0, none⟩) a n n n c Try.underlying22 Try.size23 (by rw [h0]; rfl)
    exact ⟨_, hr.trans (by rw [h0]; rfl), .inl h0, hb⟩
  · have hsrc := h.src (w' := w.alloc (.cells (zerosU n).toArray 23)) (fun b o hlt => World.cell?_alloc_past _ _ _ hlt)
    obtain ⟨b, off, rfl, _⟩ := h.get (k := 0) (by omega)
    have hg : (w.alloc (.cells (zerosU n).toArray 23)).heap[w.heap.size]? = some (.cells (zerosU n).toArray 23 (0, 0)) := Deep.blk_alloc_new _ _
    have hr := run_copy_row (P := Try.prog) (w.alloc (.cells (zerosU n).toArray 23)) 22 22 3 23 w.heap.size 0 n n ⟨b, off, none⟩ n c (zerosU n).toArray 23 (cellsU n Z) Try.underlying22 Try.size23 hg
      (by rw [cellsU_length]; exact (Nat.min_self _).symm) (hsrc _ rfl) (by rw [cellsU_length]; simp [zerosU]) (cellsU_one n Z)
    refine ⟨_, hr.trans (by rw [cellsU_length]; rfl), rowU_of_cells (setRow_heap _ _ _ _ _ _ hg) ?_, below_setRow hb (Nat.le_refl _) _⟩
    simp [zerosU]
    exact List.take_of_length_le (by rw [cellsU_length]; exact Nat.le_refl _)

/-! ### 'joined := make([]uint64, 0, len(a)+len(b)); joined = append(joined, a...); joined = append(joined, b...)' -/
def joinU (n : Nat) (Za Zb : Nat → Int) (j : Nat) : Int := if j < n then Za j else Zb (j - n)
theorem cellsU_join (n m : Nat) (Za Zb : Nat → Int) : cellsU n Za ++ cellsU m Zb = cellsU (n + m) (joinU n Za Zb) := by
  unfold cellsU
  rw [List.range_add, List.map_append, List.map_map]
  congr 1
  · refine List.map_congr_left fun j hj => ?_
    have := List.mem_range.1 hj
    simp [joinU, this]
  · refine List.map_congr_left fun j _ => ?_
    have h : ¬ n + j < n := by omega
    simp [joinU, h]
theorem join_run {w : World} {a b : Option Addr} {n m : Nat} {Za Zb : Nat → Int} (ha : RowU w a n Za) (hb : RowU w b m Zb) (han : a = none → n = 0) (hbn : b = none → m = 0) (hnm : n + m ≤ 131072) :
    ∃ w1 w2 w3, (Instr.makeSlice 22 (.int .i64 0) (.int .i64 ((n : Int) + (m : Int)))).run Try.prog w = .ok (.slice (some ⟨w.heap.size, 0, none⟩) 0 (n + m)) w1 ∧
      (Builtin.append_ #[22, 22] 22 #[.slice (some ⟨w.heap.size, 0, none⟩) 0 (n + m), .slice a n n]).run Try.prog w1 = .ok (.slice (some ⟨w.heap.size, 0, none⟩) n (n + m)) w2 ∧
      (Builtin.append_ #[22, 22] 22 #[.slice (some ⟨w.heap.size, 0, none⟩) n (n + m), .slice b m m]).run Try.prog w2 = .ok (.slice (some ⟨w.heap.size, 0, none⟩) (n + m) (n + m)) w3 ∧
      RowU w3 (some ⟨w.heap.size, 0, none⟩) (n + m) (joinU n Za Zb) ∧ Below w.heap.size w w3 := by
  obtain ⟨i, hi, hzz⟩ := Option.map_eq_some_iff.1 Try.info23
  simp only [Prod.mk.injEq] at hzz
  obtain ⟨hz, hs, hbt⟩ := hzz
  obtain ⟨w1, r1, o1, g1⟩ := run_make_own (P := Try.prog) w w.heap.size 22 23 i (.int .u64 0) 1 Try.underlying22 hi hz hs .i64 .i64 (n + m) (by rw [hbt]; omega) (by unfold maxLen; omega) (Nat.le_refl _)
  have b1 : Below w.heap.size w w1 := (Below.refl _ _).grown g1 (Nat.le_refl _) (fun k hk => by cases hk)
  obtain ⟨w2, r2, o2, b2⟩ : ∃ w2, (Builtin.append_ #[22, 22] 22 #[.slice (some ⟨w.heap.size, 0, none⟩) 0 (n + m), .slice a n n]).run Try.prog w1 = .ok (.slice (some ⟨w.heap.size, 0, none⟩) n (n + m)) w2 ∧
      w2.ownsRow w.heap.size 23 1 (.slice (some ⟨w.heap.size, 0, none⟩) n (n + m)) n (cellsU n Za) ∧ Below w.heap.size w w2 := by
    cases a with
    | none =>
      obtain rfl := han rfl
      exact ⟨w1, run_append_owned_none (P := Try.prog) w1 w.heap.size 22 22 23 i 1 Try.underlying22 hi _ 0 [] o1, o1, b1⟩
    | some ad =>
      obtain ⟨w2, r2, o2, g2⟩ := run_append_fits (P := Try.prog) w1 w.heap.size 22 22 23 i 1 Try.underlying22 hi hs w.heap.size 0 (n + m) [] o1 ad n n (cellsU n Za) (by rw [cellsU_length]; omega)
        (ha.src (fun b o hlt => b1.cell (p := ⟨b, o, none⟩) hlt) ad rfl) (cellsU_one n Za) (by omega)
      rw [Nat.zero_add] at r2 o2
      exact ⟨w2, r2, o2, b1.grown g2 b1.size (fun k hk => by cases hk; exact Nat.le_refl _)⟩
  obtain ⟨w3, r3, o3, b3⟩ : ∃ w3, (Builtin.append_ #[22, 22] 22 #[.slice (some ⟨w.heap.size, 0, none⟩) n (n + m), .slice b m m]).run Try.prog w2 = .ok (.slice (some ⟨w.heap.size, 0, none⟩) (n + m) (n + m)) w3 ∧
      w3.ownsRow w.heap.size 23 1 (.slice (some ⟨w.heap.size, 0, none⟩) (n + m) (n + m)) (n + m) (cellsU n Za ++ cellsU m Zb) ∧ Below w.heap.size w w3 := by
    cases b with
    | none =>
      obtain rfl := hbn rfl
      refine ⟨w2, run_append_owned_none (P := Try.prog) w2 w.heap.size 22 22 23 i 1 Try.underlying22 hi _ n _ o2, ?_, b2⟩
      have e : cellsU 0 Zb = [] := rfl
      rw [e, List.append_nil]
      exact o2
    | some ad =>
      obtain ⟨w3, r3, o3, g3⟩ := run_append_fits (P := Try.prog) w2 w.heap.size 22 22 23 i 1 Try.underlying22 hi hs w.heap.size n (n + m) (cellsU n Za) o2 ad m m (cellsU m Zb) (by rw [cellsU_length]; omega)
        (hb.src (fun b o hlt => b2.cell (p := ⟨b, o, none⟩) hlt) ad rfl) (cellsU_one m Zb) (Nat.le_refl _)
      exact ⟨w3, r3, o3, b2.grown g3 b2.size (fun k hk => by cases hk; exact Nat.le_refl _)⟩
  refine ⟨w1, w2, w3, ?_, r2, r3, ?_, b3⟩
  · rw [← r1]; simp
  · rw [cellsU_join] at o3
    rcases o3.2 with ⟨h, _⟩ | ⟨g, cap, cur, h, _, hg, _, _, _, ht⟩
    · simp at h
    · simp only [Value.slice.injEq, Option.some.injEq, Addr.mk.injEq, and_true, true_and] at h
      obtain ⟨rfl, _⟩ := h
      rw [Nat.mul_one] at ht
      exact rowU_of_cells hg ht

/-! ### The plain law at this seat's rows -/
theorem join_in {n : Nat} {Za Zb : Nat → Int} (ha : ∀ j, InU (Za j)) (hb : ∀ j, InU (Zb j)) (j : Nat) : InU (joinU n Za Zb j) := by
  unfold joinU; split
  · exact ha j
  · exact hb _
theorem join_left {n : Nat} {Za Zb : Nat → Int} {j : Nat} (h : j < n) : joinU n Za Zb j = Za j := if_pos h
theorem join_right (n : Nat) (Za Zb : Nat → Int) (j : Nat) : joinU n Za Zb (n + j) = Zb j := by unfold joinU; rw [if_neg (by omega)]; congr 1; omega
theorem best_left (k : Int) (n : Nat) (Za Zb : Nat → Int) : bestTo (sco k (joinU n Za Zb)) n = bestTo (sco k Za) n :=
  bestTo_congr _ _ n fun j hj => by unfold sco; rw [join_left hj]
theorem best_right (k : Int) (n m : Nat) (Za Zb : Nat → Int) : bestTo (fun j => sco k (joinU n Za Zb) (n + j)) m = bestTo (sco k Zb) m :=
  bestTo_congr _ _ m fun j _ => by unfold sco; rw [join_right]
theorem best_zero (k : Int) (m : Nat) (Za Zb : Nat → Int) : bestTo (sco k (joinU 0 Za Zb)) (0 + m) = bestTo (sco k Zb) m := by
  rw [Nat.zero_add]
  exact bestTo_congr _ _ m fun j _ => by
    have := join_right 0 Za Zb j
    rw [Nat.zero_add] at this
    unfold sco; rw [this]
theorem best_join (k : Int) (n m : Nat) (Za Zb : Nat → Int) (hn : 0 < n) (hm : 0 < m) :
    bestTo (sco k (joinU n Za Zb)) (n + m) = if sco k Za (bestTo (sco k Za) n) < sco k Zb (bestTo (sco k Zb) m) then n + bestTo (sco k Zb) m else bestTo (sco k Za) n := by
  rw [bestTo_cut _ n hn m hm, best_left, best_right]
  have e1 : sco k (joinU n Za Zb) (bestTo (sco k Za) n) = sco k Za (bestTo (sco k Za) n) := by
    unfold sco; rw [join_left (bestTo_lt _ n hn)]
  have e2 : sco k (joinU n Za Zb) (n + bestTo (sco k Zb) m) = sco k Zb (bestTo (sco k Zb) m) := by
    unfold sco; rw [join_right]
  rw [e1, e2]

end Go.Proofs.Qxb6630529a
