/-
  THE PLAIN LAWS OF SEAT b6628262aD: what 'FormatShareList' computes, as a function on lists of numbers; that it is injective, that it splits at any cut, how many commas it bears, how long it is. No program in this text.
-/
import Derived.Lib.ItoaLen
import Derived.Lib.Join
namespace Go.Proofs.Qxb6628262aDoor
open Go.Lib

/-- What FormatShareList answers. -/
def fmtL (zs : List Int) : List UInt8 := Lib.join (zs.map Lib.itoa) [44]

theorem digit_byte (d : Nat) (h : d < 10) : (UInt8.ofNat (48 + d)).toNat = 48 + d := by
  simp [UInt8.toNat_ofNat']; omega

theorem dec_digit (u : Nat) : ∀ b ∈ decDigits u, 48 ≤ b.toNat ∧ b.toNat ≤ 57 := by
  induction u using Nat.strongRecOn with
  | _ u ih =>
    intro b hb
    by_cases h : u < 10
    · rw [decDigits_one h] at hb
      simp only [List.mem_singleton] at hb
      subst hb
      rw [digit_byte u h]; omega
    · rw [decDigits, dif_neg h] at hb
      rcases List.mem_append.1 hb with hb | hb
      · exact ih (u / 10) (by omega) b hb
      · simp only [List.mem_singleton] at hb
        subst hb
        rw [digit_byte (u % 10) (by omega)]; omega

theorem dec_ne_nil (u : Nat) : decDigits u ≠ [] := by
  intro h
  have h1 := decDigits_length u
  rw [h] at h1
  have := nDigits_pos u
  simp at h1
  omega

/-- The number that a list of digits writes. -/
def valD (l : List UInt8) : Nat := l.foldl (fun acc b => acc * 10 + (b.toNat - 48)) 0
theorem val_dec (u : Nat) : valD (decDigits u) = u := by
  induction u using Nat.strongRecOn with
  | _ u ih =>
    by_cases h : u < 10
    · rw [decDigits_one h]
      show 0 * 10 + ((UInt8.ofNat (48 + u)).toNat - 48) = u
      rw [digit_byte u h]; omega
    · rw [decDigits, dif_neg h]
      have e := ih (u / 10) (by omega)
      unfold valD at e ⊢
      rw [List.foldl_append, e]
      show u / 10 * 10 + ((UInt8.ofNat (48 + u % 10)).toNat - 48) = u
      rw [digit_byte (u % 10) (by omega)]; omega

theorem dec_inj (u v : Nat) (h : decDigits u = decDigits v) : u = v := by
  rw [← val_dec u, ← val_dec v, h]

theorem itoa_ne_nil (n : Int) : itoa n ≠ [] := by
  unfold itoa
  split
  · simp
  · exact dec_ne_nil _

theorem itoa_no_comma (n : Int) : ∀ b ∈ itoa n, b ≠ 44 := by
  intro b hb he
  subst he
  unfold itoa at hb
  split at hb
  · rcases List.mem_cons.1 hb with h | h
    · exact absurd h (by decide)
    · have := dec_digit _ _ h
      have e : (44 : UInt8).toNat = 44 := rfl
      omega
  · have := dec_digit _ _ hb
    have e : (44 : UInt8).toNat = 44 := rfl
    omega

theorem dec_no_minus (u : Nat) (l : List UInt8) : decDigits u ≠ 45 :: l := by
  intro h
  have := dec_digit u 45 (by rw [h]; exact List.mem_cons_self ..)
  have e : (45 : UInt8).toNat = 45 := rfl
  omega

theorem itoa_inj (m n : Int) (h : itoa m = itoa n) : m = n := by
  unfold itoa at h
  split at h
  · split at h
    · have := dec_inj _ _ (List.cons.inj h).2
      omega
    · exact absurd h.symm (dec_no_minus _ _)
  · split at h
    · exact absurd h (dec_no_minus _ _)
    · have := dec_inj _ _ h
      omega

/-! ### Pieces that bear no comma, joined by commas -/
def Open (R : List UInt8) : Prop := R = [] ∨ ∃ t, R = 44 :: t

theorem cut_eq : ∀ (x y R S : List UInt8), (∀ b ∈ x, b ≠ 44) → (∀ b ∈ y, b ≠ 44) → Open R → Open S → x ++ R = y ++ S → x = y ∧ R = S
  | [], [], R, S, _, _, _, _, h => ⟨rfl, by simpa using h⟩
  | [], b :: y, R, S, _, hy, hR, _, h => by
    have hb := hy b (List.mem_cons_self ..)
    rcases hR with rfl | ⟨t, rfl⟩
    · simp at h
    · simp only [List.nil_append, List.cons_append, List.cons.injEq] at h
      exact absurd h.1.symm hb
  | a :: x, [], R, S, hx, _, _, hS, h => by
    have ha := hx a (List.mem_cons_self ..)
    rcases hS with rfl | ⟨t, rfl⟩
    · simp at h
    · simp only [List.nil_append, List.cons_append, List.cons.injEq] at h
      exact absurd h.1 ha
  | a :: x, b :: y, R, S, hx, hy, hR, hS, h => by
    simp only [List.cons_append, List.cons.injEq] at h
    obtain ⟨e1, e2⟩ := cut_eq x y R S (fun c hc => hx c (List.mem_cons_of_mem _ hc)) (fun c hc => hy c (List.mem_cons_of_mem _ hc)) hR hS h.2
    exact ⟨by rw [h.1, e1], e2⟩

theorem tail_cons (y : List UInt8) (r : List (List UInt8)) : joinTail [44] (y :: r) = 44 :: (y ++ joinTail [44] r) := by
  simp [joinTail]

theorem tail_open (r : List (List UInt8)) : Open (joinTail [44] r) := by
  cases r with
  | nil => exact .inl rfl
  | cons y r => exact .inr ⟨_, tail_cons y r⟩

theorem tail_inj : ∀ (r s : List (List UInt8)), (∀ x ∈ r, ∀ b ∈ x, b ≠ 44) → (∀ x ∈ s, ∀ b ∈ x, b ≠ 44) → joinTail [44] r = joinTail [44] s → r = s
  | [], [], _, _, _ => rfl
  | [], y :: s, _, _, h => by rw [tail_cons] at h; simp [joinTail] at h
  | x :: r, [], _, _, h => by rw [tail_cons] at h; simp [joinTail] at h
  | x :: r, y :: s, hr, hs, h => by
    rw [tail_cons, tail_cons, List.cons.injEq] at h
    obtain ⟨e1, e2⟩ := cut_eq x y _ _ (hr x (List.mem_cons_self ..)) (hs y (List.mem_cons_self ..)) (tail_open r) (tail_open s) h.2
    rw [e1, tail_inj r s (fun z hz => hr z (List.mem_cons_of_mem _ hz)) (fun z hz => hs z (List.mem_cons_of_mem _ hz)) e2]

theorem map_itoa_no (zs : List Int) : ∀ x ∈ zs.map itoa, ∀ b ∈ x, b ≠ 44 := by
  intro x hx
  obtain ⟨n, _, rfl⟩ := List.mem_map.1 hx
  exact itoa_no_comma n

theorem map_itoa_inj : ∀ (r s : List Int), r.map itoa = s.map itoa → r = s
  | [], [], _ => rfl
  | [], _ :: _, h => by simp at h
  | _ :: _, [], h => by simp at h
  | a :: r, b :: s, h => by
    simp only [List.map_cons, List.cons.injEq] at h
    rw [itoa_inj a b h.1, map_itoa_inj r s h.2]

theorem fmtL_nil : fmtL [] = [] := rfl
theorem fmtL_cons (z : Int) (r : List Int) : fmtL (z :: r) = itoa z ++ joinTail [44] (r.map itoa) := by
  unfold fmtL; rw [List.map_cons, join_cons]
theorem fmtL_one (z : Int) : fmtL [z] = itoa z := by rw [fmtL_cons]; simp [joinTail]

/-- INJECTIVE. -/
theorem fmtL_inj (a b : List Int) (h : fmtL a = fmtL b) : a = b := by
  cases a with
  | nil =>
    cases b with
    | nil => rfl
    | cons y s =>
      rw [fmtL_nil, fmtL_cons] at h
      exact absurd (List.append_eq_nil_iff.1 h.symm).1 (itoa_ne_nil y)
  | cons x r =>
    cases b with
    | nil =>
      rw [fmtL_nil, fmtL_cons] at h
      exact absurd (List.append_eq_nil_iff.1 h).1 (itoa_ne_nil x)
    | cons y s =>
      rw [fmtL_cons, fmtL_cons] at h
      obtain ⟨e1, e2⟩ := cut_eq _ _ _ _ (itoa_no_comma x) (itoa_no_comma y) (tail_open _) (tail_open _) h
      rw [itoa_inj x y e1, map_itoa_inj r s (tail_inj _ _ (map_itoa_no r) (map_itoa_no s) e2)]

/-- The commas. -/
def commas (l : List UInt8) : Nat := l.countP (· == 44)
theorem commas_append (l m : List UInt8) : commas (l ++ m) = commas l + commas m := by unfold commas; exact List.countP_append ..
theorem commas_none (l : List UInt8) (h : ∀ b ∈ l, b ≠ 44) : commas l = 0 := by
  unfold commas
  rw [List.countP_eq_zero]
  intro b hb
  simp [h b hb]
theorem commas_tail : ∀ (r : List (List UInt8)), (∀ x ∈ r, ∀ b ∈ x, b ≠ 44) → commas (joinTail [44] r) = r.length
  | [], _ => rfl
  | x :: r, h => by
    have e : joinTail [44] (x :: r) = [44] ++ (x ++ joinTail [44] r) := by rw [tail_cons]; rfl
    rw [e, commas_append, commas_append, commas_none x (h x (List.mem_cons_self ..)), commas_tail r (fun z hz => h z (List.mem_cons_of_mem _ hz)), List.length_cons]
    have : commas [44] = 1 := by decide
    omega
theorem commas_fmtL (zs : List Int) : commas (fmtL zs) = zs.length - 1 := by
  cases zs with
  | nil => rfl
  | cons z r =>
    rw [fmtL_cons, commas_append, commas_none _ (itoa_no_comma z), commas_tail _ (map_itoa_no r)]
    simp

/-- THE CUT. -/
theorem tail_append (r s : List (List UInt8)) : joinTail [44] (r ++ s) = joinTail [44] r ++ joinTail [44] s := by simp [joinTail]
theorem fmtL_append (a b : List Int) (ha : a ≠ []) (hb : b ≠ []) : fmtL (a ++ b) = fmtL a ++ (44 :: fmtL b) := by
  cases a with
  | nil => exact absurd rfl ha
  | cons x r =>
    cases b with
    | nil => exact absurd rfl hb
    | cons y s =>
      rw [List.cons_append, fmtL_cons, fmtL_cons, fmtL_cons, List.map_append, tail_append, List.map_cons, tail_cons]
      simp

/-- The length. -/
theorem lens_le : ∀ (zs : List Int), (∀ z ∈ zs, -9223372036854775808 ≤ z ∧ z ≤ 9223372036854775807) → lens (zs.map itoa) ≤ 21 * zs.length
  | [], _ => by simp [lens]
  | z :: r, h => by
    have h1 := itoa_length_le z (h z (List.mem_cons_self ..)).1 (h z (List.mem_cons_self ..)).2
    have h2 := lens_le r (fun x hx => h x (List.mem_cons_of_mem _ hx))
    simp only [lens, List.map_cons, List.sum_cons, List.length_cons] at h2 ⊢
    omega
theorem fmtL_length (zs : List Int) (h : ∀ z ∈ zs, -9223372036854775808 ≤ z ∧ z ≤ 9223372036854775807) : (fmtL zs).length ≤ 22 * zs.length := by
  cases zs with
  | nil => simp [fmtL_nil]
  | cons z r =>
    have h1 := lens_le (z :: r) h
    unfold fmtL
    rw [List.map_cons, join_length]
    simp only [List.map_cons, List.length_cons, List.length_map, List.length_nil] at h1 ⊢
    omega

/-! ### zzDecimal: the digits, from the last to the first -/
def preD (u : Nat) : List UInt8 := if u = 0 then [] else decDigits u
theorem preD_zero : preD 0 = [] := rfl
theorem preD_pos (u : Nat) (h : u ≠ 0) : preD u = decDigits u := if_neg h
theorem preD_step (u : Nat) (h : 0 < u) : preD u = preD (u / 10) ++ [UInt8.ofNat (48 + u % 10)] := by
  rw [preD_pos u (by omega)]
  by_cases h10 : u < 10
  · rw [decDigits_one h10, show u / 10 = 0 by omega, preD_zero, Nat.mod_eq_of_lt h10]; rfl
  · rw [preD_pos (u / 10) (by omega), decDigits, dif_neg h10]
theorem preD_len (u : Nat) (h : u < 18446744073709551616) : (preD u).length ≤ 20 := by
  unfold preD
  split
  · simp
  · rw [decDigits_length]; exact nDigits_le20 u h

end Go.Proofs.Qxb6628262aDoor
