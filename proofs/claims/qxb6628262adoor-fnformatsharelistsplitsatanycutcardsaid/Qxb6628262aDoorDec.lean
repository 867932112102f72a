/-
  SEAT b6628262aD: THE WALK OVER 'zzDecimal' (function 7): it writes what strconv.Itoa writes.
-/
import Derived.Test.Qxb6628262aDoorFmt
import Derived.Deep.QuietTactic
import Derived.BigQuiet
namespace Go.Proofs.Qxb6628262aDoor
open Go.RowKit Go.Lib

/-- The row of 24 bytes whose last ones are L. -/
def rowF (L : List UInt8) (t : Nat) : Value := if t < 24 - L.length then .int .u8 0 else .int .u8 ((L.getD (t - (24 - L.length)) 0).toNat : Int)

structure DR (w : World) (T : TypeId) (u0 u : Nat) (L : List UInt8) (wr : World) : Prop where
  below : Below w.heap.size w wr
  row : wr.rowIs w.heap.size T 24 (rowF L)
  eq : preD u0 = preD u ++ L

theorem DR.start (w : World) (u0 : Nat) : DR w 30 u0 u0 [] (w.alloc (.cells zeros24 30)) :=
  ⟨(Below.refl _ _).alloc (Nat.le_refl _) _, World.rowIs_alloc w zeros24 30 _ (fun i hi => by rw [zeros24_at i hi]; simp [rowF]), by simp⟩

theorem rowF_cons (d : UInt8) (L : List UInt8) (h : L.length < 24) (j : Nat) : (if j = 23 - L.length then .int .u8 (d.toNat : Int) else rowF L j) = rowF (d :: L) j := by
  unfold rowF
  by_cases e : j = 23 - L.length
  · rw [if_pos e, if_neg (by simp; omega)]
    have : j - (24 - (d :: L).length) = 0 := by simp; omega
    rw [this]; rfl
  · rw [if_neg e]
    by_cases h1 : j < 24 - (L.length + 1)
    · rw [if_pos (by omega), if_pos (by simpa using h1)]
    · rw [if_neg (by omega), if_neg (by simpa using h1)]
      have : j - (24 - (d :: L).length) = (j - (24 - L.length)) + 1 := by simp; omega
      rw [this]; simp

theorem DR.put {w wr : World} {T : TypeId} {u0 u u' : Nat} {L : List UInt8} (h : DR w T u0 u L wr) (hl : L.length < 24) (d : UInt8) (he : preD u0 = preD u' ++ (d :: L)) {i : Nat} (hi : i = 23 - L.length) :
    DR w T u0 u' (d :: L) (wr.setCell ⟨w.heap.size, i, none⟩ (.int .u8 (d.toNat : Int))) := by
  subst hi
  exact ⟨h.below.setCell (Nat.le_refl _) _, (h.row.set (23 - L.length) _).congr (fun j _ => rowF_cons d L hl j), he⟩

theorem Tryd.len30 : Tryd.prog.arrayLen 30 = 24 := by kernel_rfl
theorem Tryd.elem30 : Tryd.prog.elem 30 = 5 := by kernel_rfl
theorem slice_tail (b k m : Nat) (hk : k + m = 24) (hm : 0 < m) (w : World) :
    (Instr.sliceAt 30 (.pointer (some ⟨b, 0, none⟩)) (some (.int .i64 (k : Int))) none none).run Tryd.prog w = .ok (.slice (some ⟨b, k, none⟩) m m) w := by
  rw [run_sliceAt_array_l w 30 ⟨b, 0, none⟩ Tryd.underlying30 .i64 (k : Int) (by omega) (by rw [Tryd.len30]; omega)]
  rw [Tryd.elem30, Tryd.sizeOf5, Tryd.len30]
  have h1 : ¬ (24 = k) := by omega
  have h2 : 24 - k = m := by omega
  simp [Result.andThen, slicedAt, h1, h2, Lib.add_plain]
theorem row_text {w : World} {b : Nat} {T : TypeId} {L : List UInt8} {k : Nat} (h : w.rowIs b T 24 (rowF L)) (hk : k + L.length = 24) :
    (convert 31 9 (.slice (some ⟨b, k, none⟩) L.length L.length)).run Tryd.prog w = .ok (.string ⟨L.toArray⟩) w :=
  run_convert_bytes_back w 31 9 5 ⟨b, k, none⟩ L.length L Tryd.underlying31 Tryd.underlying5 Tryd.underlying9 (fun j hj => by
    rw [Lib.add_plain, h.cell (by omega)]
    unfold rowF
    rw [if_neg (by omega), show k + j - (24 - L.length) = j by omega, List.getD_eq_getElem?_getD, List.getElem?_eq_getElem hj]
    rfl)

theorem ret_str {l m : List UInt8} (h : l = m) : Ending.returned (.string ⟨l.toArray⟩) = .returned (.string ⟨m.toArray⟩) := by rw [h]

set_option maxHeartbeats 1000000 in
theorem dec_pos (u0 : Nat) (w : World) (h0 : 0 < u0) (h1 : u0 ≤ 9223372036854775807) :
    Calls Tryd.prog 7 #[.int .i64 u0] w fun e w' => e = .returned (.string ⟨(Lib.itoa u0).toArray⟩) ∧ Below w.heap.size w w' := by
  have hz : ((u0 : Int) == 0) = false := beq_eq_false_iff_ne.2 (by omega)
  have HP : Hid ((preD u0).length ≤ 20) := preD_len u0 (by omega)
  go_enter Tryd.func7, Tryd.ntmps7
  go_wp2
  go_loopw [4, 6] (fun t i wr => ∃ (u : Nat) (L : List UInt8) (k : Nat), u ≤ u0 ∧ k + L.length = 24 ∧ t = .int .u64 u ∧ i = .int .i64 k ∧ Hid (DR w 30 u0 u L wr)) (fun t _ _ => (intOf t).toNat)
  case atStart => exact ⟨u0, [], 24, Nat.le_refl _, rfl, rfl, rfl, DR.start w u0⟩
  case round =>
    obtain ⟨u, L, k, hu, hk, rfl, rfl, HD⟩ := hrel
    by_cases hlt : 0 < u
    · have hL : L.length < 20 := by
        have h2 := congrArg List.length HD.out.eq
        rw [List.length_append, preD_pos u (by omega)] at h2
        have h3 := List.length_pos_iff.2 (dec_ne_nil u)
        have h4 := HP.out
        omega
      obtain ⟨k', rfl⟩ : ∃ k', k = k' + 1 := ⟨k - 1, by omega⟩
      have hc := HD.out.row.cell (i := k') (by omega)
      have hf := HD.out.row.frozen k'
      have hk24 : (k' : Int) < 24 := by omega
      have HN : Hid (DR w 30 u0 (u / 10) (UInt8.ofNat (48 + u % 10) :: L) (wr.setCell ⟨w.heap.size, k', none⟩ (.int .u8 (48 + (u : Int) % 10)))) := by
        have h := HD.out.put (by omega) (UInt8.ofNat (48 + u % 10)) (u' := u / 10) (by rw [HD.out.eq, preD_step u hlt]; simp) (i := k') (by omega)
        rw [digit_byte (u % 10) (by omega)] at h
        have e : ((48 + u % 10 : Nat) : Int) = 48 + (u : Int) % 10 := by omega
        rw [e] at h
        exact h
      go_wp2
      go_roundw
      case rel => exact ⟨u / 10, UInt8.ofNat (48 + u % 10) :: L, k', by omega, by simp; omega, by go_num, by go_num, HN⟩
      case measure => simp [intOf]; omega
    · have hu0 : u = 0 := by omega
      subst hu0
      have HE : Hid (L = Lib.itoa u0) := by
        have h2 := HD.out.eq
        rw [preD_zero, List.nil_append, preD_pos u0 (by omega)] at h2
        show _ = _
        rw [itoa_nonneg, h2]
      have hL : 0 < L.length := by rw [HE.out]; exact List.length_pos_iff.2 (itoa_ne_nil _)
      have hsl := slice_tail w.heap.size k L.length hk hL
      have hcv := row_text HD.out.row hk
      go_wp2
      go_ret
      exact ⟨ret_str HE.out, HD.out.below⟩

set_option maxHeartbeats 1000000 in
theorem dec_neg (n : Int) (w : World) (h0 : n < 0) (h1 : -9223372036854775808 ≤ n) :
    Calls Tryd.prog 7 #[.int .i64 n] w fun e w' => e = .returned (.string ⟨(Lib.itoa n).toArray⟩) ∧ Below w.heap.size w w' := by
  have hz : (n == 0) = false := beq_eq_false_iff_ne.2 (by omega)
  obtain ⟨u0, HU, hu1, hu2⟩ : ∃ u0 : Nat, Hid (-(n + 1) + 1 = (u0 : Int)) ∧ 0 < u0 ∧ u0 ≤ 9223372036854775808 := ⟨n.natAbs, by show _ = _; omega, by omega, by omega⟩
  have HP : Hid ((preD u0).length ≤ 20) := preD_len u0 (by omega)
  go_enter Tryd.func7, Tryd.ntmps7
  go_wp2
  go_loopw [4, 6] (fun t i wr => ∃ (u : Nat) (L : List UInt8) (k : Nat), u ≤ u0 ∧ k + L.length = 24 ∧ t = .int .u64 u ∧ i = .int .i64 k ∧ Hid (DR w 30 u0 u L wr)) (fun t _ _ => (intOf t).toNat)
  case atStart => exact ⟨u0, [], 24, Nat.le_refl _, rfl, by rw [← HU.out], rfl, DR.start w u0⟩
  case round =>
    obtain ⟨u, L, k, hu, hk, rfl, rfl, HD⟩ := hrel
    have hL1 : L.length ≤ 20 := by
      have h2 := congrArg List.length HD.out.eq
      rw [List.length_append] at h2
      have h4 := HP.out
      omega
    by_cases hlt : 0 < u
    · have hL : L.length < 20 := by
        have h2 := congrArg List.length HD.out.eq
        rw [List.length_append, preD_pos u (by omega)] at h2
        have h3 := List.length_pos_iff.2 (dec_ne_nil u)
        have h4 := HP.out
        omega
      obtain ⟨k', rfl⟩ : ∃ k', k = k' + 1 := ⟨k - 1, by omega⟩
      have hc := HD.out.row.cell (i := k') (by omega)
      have hf := HD.out.row.frozen k'
      have hk24 : (k' : Int) < 24 := by omega
      have HN : Hid (DR w 30 u0 (u / 10) (UInt8.ofNat (48 + u % 10) :: L) (wr.setCell ⟨w.heap.size, k', none⟩ (.int .u8 (48 + (u : Int) % 10)))) := by
        have h := HD.out.put (by omega) (UInt8.ofNat (48 + u % 10)) (u' := u / 10) (by rw [HD.out.eq, preD_step u hlt]; simp) (i := k') (by omega)
        rw [digit_byte (u % 10) (by omega)] at h
        have e : ((48 + u % 10 : Nat) : Int) = 48 + (u : Int) % 10 := by omega
        rw [e] at h
        exact h
      go_wp2
      go_roundw
      case rel => exact ⟨u / 10, UInt8.ofNat (48 + u % 10) :: L, k', by omega, by simp; omega, by go_num, by go_num, HN⟩
      case measure => simp [intOf]; omega
    · have hu0 : u = 0 := by omega
      subst hu0
      have HE : Hid (45 :: L = Lib.itoa n) := by
        have h2 := HD.out.eq
        rw [preD_zero, List.nil_append, preD_pos u0 (by omega)] at h2
        have h3 : n = -(u0 : Int) := by have := HU.out; omega
        show _ = _
        rw [h3, itoa_neg u0 (by omega), h2]
      obtain ⟨k', rfl⟩ : ∃ k', k = k' + 1 := ⟨k - 1, by omega⟩
      have hc := HD.out.row.cell (i := k') (by omega)
      have hf := HD.out.row.frozen k'
      have hk24 : (k' : Int) < 24 := by omega
      have hrow : (wr.setCell ⟨w.heap.size, k', none⟩ (.int .u8 45)).rowIs w.heap.size 30 24 (rowF (45 :: L)) := by
        have h : (wr.setCell ⟨w.heap.size, k', none⟩ (.int .u8 ((45 : UInt8).toNat : Int))).rowIs w.heap.size 30 24 (rowF (45 :: L)) :=
          (HD.out.row.set k' (.int .u8 ((45 : UInt8).toNat : Int))).congr (fun j _ => by
            have := rowF_cons 45 L (by omega) j
            rw [show 23 - L.length = k' by omega] at this
            exact this)
        exact h
      have HB : Hid (Below w.heap.size w (wr.setCell ⟨w.heap.size, k', none⟩ (.int .u8 45))) := HD.out.below.setCell (Nat.le_refl _) _
      have hsl := slice_tail w.heap.size k' (45 :: L).length (by simp; omega) (by simp)
      have hcv := row_text hrow (k := k') (by simp; omega)
      clear hrow
      generalize hM : (45 :: L : List UInt8) = M at *
      have HM : Hid (45 :: L = M) := hM
      clear hM
      go_wp2
      go_ret
      exact ⟨ret_str HE.out, HB⟩

theorem dec_any (n : Int) (w : World) (h0 : -9223372036854775808 ≤ n) (h1 : n ≤ 9223372036854775807) :
    Calls Tryd.prog 7 #[.int .i64 n] w fun e w' => e = .returned (.string ⟨(Lib.itoa n).toArray⟩) ∧ Below w.heap.size w w' := by
  by_cases hn : n < 0
  · exact dec_neg n w hn h0
  · by_cases hz : n = 0
    · subst hz
      have e : Lib.itoa 0 = [48] := by rw [show (0 : Int) = ((0 : Nat) : Int) from rfl, itoa_nonneg, decDigits_one (by omega)]; rfl
      rw [e]
      go_enter Tryd.func7, Tryd.ntmps7
      go_wp2
      go_ret
      exact ⟨rfl, Below.refl _ _⟩
    · obtain ⟨u, rfl⟩ : ∃ u : Nat, n = u := ⟨n.toNat, by omega⟩
      exact dec_pos u w (by omega) (by omega)

end Go.Proofs.Qxb6628262aDoor
