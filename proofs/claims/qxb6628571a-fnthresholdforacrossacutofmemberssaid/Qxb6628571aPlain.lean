/-
  THE PLAIN LAWS OF SEAT b6628571a: the last threshold that is set for a domain, as a fold and as a map's content; the summed weight of a domain's members; the majority's arithmetic. No program in this text.
-/
import Derived.Maps.OwnSet
import Derived.WalkKit
namespace Go.Proofs.Qxb6628571a
open Go.RowKit

/-- The threshold set for dom among the first k pairs (the last pair that names it), and whether one is set. -/
def lastTo (K : Nat → ByteArray) (V : Nat → Int) (dom : ByteArray) : Nat → Int × Bool
  | 0 => (0, false)
  | k + 1 => if ((K k).toList == dom.toList) = true then (V k, true) else lastTo K V dom k

/-- The map that the first k pairs make. -/
def mapTo (K : Nat → ByteArray) (V : Nat → Int) : Nat → DataW Unit
  | 0 => .map []
  | k + 1 => (mapTo K V k).put (.string (K k).data.toList) (.lit (.int .i64 (V k)))

theorem mapTo_isMap (K : Nat → ByteArray) (V : Nat → Int) : ∀ k, Maps.IsMap (mapTo K V k)
  | 0 => Maps.isMap_empty
  | k + 1 => (mapTo_isMap K V k).put _ _

theorem toList_data (s : ByteArray) : s.toList = s.data.toList := ByteArray.toList_eq s

theorem isKey_string (l : List UInt8) : WideAt.IsKeyLit (.string l) := by
  simp [WideAt.IsKeyLit]

theorem map_last (K : Nat → ByteArray) (V : Nat → Int) (dom : ByteArray) : ∀ k,
    Maps.has (mapTo K V k) (.string dom.data.toList) = (lastTo K V dom k).2 ∧ (mapTo K V k).atKey (.string dom.data.toList) (.lit (.int .i64 0)) = .lit (.int .i64 (lastTo K V dom k).1)
  | 0 => ⟨rfl, rfl⟩
  | k + 1 => by
    have ih := map_last K V dom k
    unfold mapTo lastTo
    by_cases h : ((K k).toList == dom.toList) = true
    · rw [if_pos h]
      have e : (K k).data.toList = dom.data.toList := by
        have := beq_iff_eq.1 h
        rwa [toList_data, toList_data] at this
      rw [e]
      exact ⟨Maps.has_put_same (mapTo_isMap K V k) (isKey_string _) _, Maps.atKey_put_same (mapTo_isMap K V k) (isKey_string _) _ _⟩
    · rw [if_neg h]
      have hne : (Lit.string dom.data.toList) ≠ .string (K k).data.toList := by
        intro e
        apply h
        rw [toList_data, toList_data, beq_iff_eq]
        injection e with e
        exact e.symm
      exact ⟨(Maps.has_put_other hne _).trans ih.1, (Maps.atKey_put_other hne _ _).trans ih.2⟩

/-- The summed weight of the domain's members among the first k. -/
def sumTo (W : Nat → Int) (D : Nat → ByteArray) (dom : ByteArray) : Nat → Int
  | 0 => 0
  | k + 1 => if ((D k).toList == dom.toList) = true then sumTo W D dom k + W k else sumTo W D dom k

theorem sumTo_succ (W : Nat → Int) (D : Nat → ByteArray) (dom : ByteArray) (k : Nat) : sumTo W D dom (k + 1) = if ((D k).toList == dom.toList) = true then sumTo W D dom k + W k else sumTo W D dom k := rfl
theorem sumTo_add (W : Nat → Int) (D : Nat → ByteArray) (dom : ByteArray) (c : Nat) : ∀ k, sumTo W D dom (c + k) = sumTo W D dom c + sumTo (fun j => W (c + j)) (fun j => D (c + j)) dom k
  | 0 => by simp [sumTo]
  | k + 1 => by
    rw [← Nat.add_assoc, sumTo_succ, sumTo_succ, sumTo_add W D dom c k]
    split <;> omega

theorem wrap_add (s x : Int) : wrap64 (wrap64 s + x) = wrap64 (s + x) := by
  unfold wrap64; omega
theorem wrap_in (s : Int) (h0 : 0 ≤ s) (h1 : s ≤ 4611686018427387904) : wrap64 s = s := by
  unfold wrap64; omega

/-- The majority across a cut. -/
theorem half_cut (a b : Int) : (a + b) / 2 + 1 = a / 2 + 1 + (b / 2 + 1) - 1 + (if a % 2 = 1 ∧ b % 2 = 1 then 1 else 0) := by
  split <;> omega

end Go.Proofs.Qxb6628571a
