/-
  SEAT b6630568aF: THE PLAIN LAWS ON 'okName': no Go in sight.
-/
import Derived.Test.Qxb6630568aFmtNames
namespace Go.Proofs.Qxb6630568aFmt

theorem okName_eq (l : List UInt8) : okName l = (okAll l && (!l.isEmpty && (decide (l.length ≤ 63) && (!(l.head? == some 45) && !(l.getLast? == some 45))))) := by
  unfold okName
  cases l with
  | nil => rfl
  | cons x r =>
    have h0 : (x :: r).getD 0 0 = x := rfl
    have h1 : (x :: r).getLast? = some ((x :: r).getD ((x :: r).length - 1) 0) := by
      rw [List.getLast?_eq_getElem?, List.getD_eq_getElem?_getD]
      rw [List.getElem?_eq_getElem (by simp)]
      rfl
    rw [h0, h1]
    simp

theorem okName_hyphen_first (l : List UInt8) : okName (45 :: l) = false := by
  rw [okName_eq]; simp
theorem okName_hyphen_last (l : List UInt8) : okName (l ++ [45]) = false := by
  rw [okName_eq]; simp
theorem okName_long (l : List UInt8) (h : 63 < l.length) : okName l = false := by
  rw [okName_eq, decide_eq_false (by omega)]; simp

theorem okAll_append (p q : List UInt8) : okAll (p ++ q) = (okAll p && okAll q) := by
  unfold okAll; rw [List.all_append]
theorem okAll_cons (x : UInt8) (q : List UInt8) : okAll (x :: q) = (okB x && okAll q) := rfl

theorem okName_inside (p q : List UInt8) : okName (p ++ 45 :: q) = (!p.isEmpty && (!q.isEmpty && okName (p ++ 48 :: q))) := by
  cases p with
  | nil => exact okName_hyphen_first q
  | cons x p =>
    cases q with
    | nil => rw [okName_hyphen_last]; rfl
    | cons y q =>
      rw [okName_eq, okName_eq, okAll_append, okAll_append, okAll_cons 45, okAll_cons 48]
      have e1 : okB 45 = true := by decide
      have e2 : okB 48 = true := by decide
      rw [e1, e2]
      simp [List.getLast?_append, List.getLast?_cons]

theorem okName_cut (p q : List UInt8) (hp : p ≠ []) (hq : q ≠ []) (h : (p ++ q).length ≤ 63) : okName (p ++ q) = (okName (p ++ [48]) && okName (48 :: q)) := by
  have e2 : okB 48 = true := by decide
  have e3 : okAll [48] = true := by decide
  cases p with
  | nil => exact absurd rfl hp
  | cons x p =>
    cases q with
    | nil => exact absurd rfl hq
    | cons y q =>
      have h1 : ((x :: p) ++ [48]).length ≤ 63 := by simp at h ⊢; omega
      have h2 : (48 :: y :: q).length ≤ 63 := by simp at h ⊢; omega
      rw [okName_eq, okName_eq, okName_eq, decide_eq_true h, decide_eq_true h1, decide_eq_true h2, okAll_append, okAll_append, e3, okAll_cons 48, e2]
      simp [List.getLast?_append, List.getLast?_cons]
      generalize okAll (x :: p) = a1
      generalize okAll (y :: q) = a2
      generalize (x == 45) = a3
      cases a1 <;> cases a2 <;> cases a3 <;> rfl

theorem okName_one (x : UInt8) : okName [x] = (okName [x, 48] && okName [48, x]) := by
  have e2 : okB 48 = true := by decide
  rw [okName_eq, okName_eq, okName_eq]
  simp [okAll, e2]

end Go.Proofs.Qxb6630568aFmt
