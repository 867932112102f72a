/-
  SEAT b6630568aF: THE WALK OVER earlierSiteNameFault (function 11): a range over a string; where a rune is not let, a text of fmt's.
-/
import Derived.Test.Qxb6630568aFmtFacts
import Derived.WalkKit
import Derived.WalkSpells
import Derived.WalkLawsBesides
import Derived.Deep.LoopGhost
import Derived.Lib.Strings
namespace Go.Proofs.Qxb6630568aFmt
open Go.RowKit Go.Extern.Stop Go.Stop Go.Extern

attribute [local go_sem] call12 guardF fmtH fmtHr op21

/-- A byte that a site's name may hold. -/
def okB (b : UInt8) : Bool := (97 ≤ b.toNat && b.toNat ≤ 122) || (48 ≤ b.toNat && b.toNat ≤ 57) || b.toNat == 45
def okAll (l : List UInt8) : Bool := l.all okB

/-- What fmt is asked for at a rune that is not let, and at a name that is too long. -/
def askH (r : Int) : List (List UInt8) := [holdsL, shape21, digits 8 (r % 18446744073709551616).toNat]
def askI (n : Int) : List (List UInt8) := [longL, shape3, digits 8 (n % 18446744073709551616).toNat]
/-- fmt's answers there are not empty. -/
structure Tells (F : Interp) : Prop where
  rune : ∀ r : Int, 0 ≤ r → r ≤ 1114111 → (FmtStop.textOf (F "fmt.Sprintf" (askH r) 0)).toList.isEmpty = false
  long : ∀ n : Int, (Lit.int .i64 n).wf = true → (FmtStop.textOf (F "fmt.Sprintf" (askI n) 0)).toList.isEmpty = false

/-- A fault's text: empty just where all is well. -/
def FaultOut (ok : Bool) (e : Ending) : Prop := ∃ t : ByteArray, e = .returned (.string t) ∧ t.toList.isEmpty = ok

/-! ### The next rune -/
theorem decode_high (s : ByteArray) (pos : Nat) (h : pos < s.size) (ha : ¬ (s[pos]'h).toNat < 128) : 128 ≤ (Utf8.decode s pos).1 ∧ (Utf8.decode s pos).1 ≤ 1114111 := by
  have e : s.get! (pos + 0) = s[pos]'h := by
    show s.get! pos = _
    simp [ByteArray.get!, getElem!_pos, h]
    rfl
  unfold Utf8.decode
  simp only [e, ha, if_false]
  split
  · split
    · rename_i h1 h2
      simp only [ge_iff_le] at h2
      refine ⟨h2, ?_⟩
      omega
    · simp [Utf8.runeError]
  · split
    · split
      · rename_i h1 h2
        simp only [ge_iff_le, Bool.and_eq_true, decide_eq_true_eq] at h2
        refine ⟨by omega, ?_⟩
        omega
      · simp [Utf8.runeError]
    · split
      · split
        · rename_i h1 h2
          simp only [ge_iff_le, Bool.and_eq_true, decide_eq_true_eq] at h2
          refine ⟨by omega, ?_⟩
          have hv := h2.2
          simp [Utf8.valid] at hv
          omega
        · simp [Utf8.runeError]
      · simp [Utf8.runeError]

theorem run_next_any {P : Program} (w : World) (s : ByteArray) (pos : Nat) (ty : TypeId) (h : pos < s.size) :
    (Instr.next (.pointer (some ⟨w.heap.size, 0, none⟩)) true ty).run P (w.iter s pos) =
      .ok (.tuple #[.bool true, .int .i64 pos, .int .i32 (Utf8.decode s pos).1]) (w.iter s (pos + (Utf8.decode s pos).2)) := by
  simp only [Instr.next, getObj, setObj, Sem.run_bind, Sem.run, World.iter_heap, Result.andThen, h, if_true, World.iter_set]
  simp [goInt]

/-! ### The bytes -/
theorem okB_yes (b : UInt8) (h : (97 ≤ (b.toNat : Int) ∧ (b.toNat : Int) ≤ 122) ∨ (48 ≤ (b.toNat : Int) ∧ (b.toNat : Int) ≤ 57) ∨ (b.toNat : Int) = 45) : okB b = true := by
  unfold okB
  simp only [Bool.or_eq_true, Bool.and_eq_true, decide_eq_true_eq, beq_iff_eq]
  omega
theorem okB_no (b : UInt8) (h : ¬ ((97 ≤ (b.toNat : Int) ∧ (b.toNat : Int) ≤ 122) ∨ (48 ≤ (b.toNat : Int) ∧ (b.toNat : Int) ≤ 57) ∨ (b.toNat : Int) = 45)) : okB b = false := by
  rw [← Bool.not_eq_true]
  intro h'
  unfold okB at h'
  simp only [Bool.or_eq_true, Bool.and_eq_true, decide_eq_true_eq, beq_iff_eq] at h'
  omega
theorem take_succ_okAll (s : ByteArray) (k : Nat) (h : k < s.size) : okAll (s.data.toList.take (k + 1)) = (okAll (s.data.toList.take k) && okB (s[k]'h)) := by
  rw [List.take_succ_eq_append_getElem (by simpa using h)]
  unfold okAll
  rw [List.all_append]
  simp
  rfl
theorem okAll_false (s : ByteArray) (k : Nat) (h : k < s.size) (hb : okB (s[k]'h) = false) : okAll s.data.toList = false := by
  unfold okAll
  rw [List.all_eq_false]
  refine ⟨s[k]'h, ?_, by simp [hb]⟩
  have : s.data.toList[k]? = some (s[k]'h) := by
    rw [Array.getElem?_toList]; exact Array.getElem?_eq_getElem h
  exact List.mem_of_getElem? this
theorem wf_rune (r : Int) (h0 : 0 ≤ r) (h1 : r ≤ 1114111) : (Lit.int .i32 r).wf = true := by
  simp [Lit.wf, IntKind.min, IntKind.max, IntKind.signed, IntKind.bits]; omega

set_option maxHeartbeats 1000000 in
theorem earlier_calls (F : Interp) (s : ByteArray) (w : World) (hF : F.answers w.tape) (hT : Tells F) :
    Calls Tryf.prog 11 #[.string s] w fun e w' => FaultOut (okAll s.data.toList && !s.data.toList.isEmpty) e ∧ Below w.heap.size w w' := by
  have hF' := answers_open hF
  have hF2 : ∀ j i name reading k range, (w.iter s j).tape i (.extern (word name reading k) range) = F name reading k := fun _ => hF'
  have HB : Hid (∀ j, Below w.heap.size w (w.iter s j)) := fun j => (Below.refl _ _).alloc (Nat.le_refl _) _
  generalize hok : (okAll s.data.toList && !s.data.toList.isEmpty) = ok
  have HOK : Hid ((okAll s.data.toList && !s.data.toList.isEmpty) = ok) := hok
  have HTT : Hid (Tells F) := hT
  clear hok hT
  go_enter Tryf.func11, Tryf.ntmps11
  go_wp2
  go_loopg [4] s.size (fun g _ wr => ∃ k : Nat, k ≤ s.size ∧ g = s.size - k ∧ wr = w.iter s k ∧ Hid (okAll (s.data.toList.take k) = true))
  case atStart => exact ⟨0, Nat.zero_le _, rfl, rfl, rfl⟩
  case round =>
    obtain ⟨k, hk, rfl, rfl, HO⟩ := hrel
    by_cases hlt : k < s.size
    · have HX : Hid _ := take_succ_okAll s k hlt
      have HBAD : Hid (okB (s[k]'hlt) = false → ok = false) := fun h => by rw [← HOK.out, okAll_false s k hlt h]; rfl
      by_cases ha : (s[k]'hlt).toNat < 128
      · have hnx := fun ty => run_next_ascii (P := Tryf.prog) w s k ty hlt ha
        have HY : Hid _ := okB_yes (s[k]'hlt)
        have HN : Hid _ := okB_no (s[k]'hlt)
        have hc0 : (0 : Int) ≤ ((s[k]'hlt).toNat : Int) := by omega
        have hc1 : ((s[k]'hlt).toNat : Int) ≤ 127 := by omega
        clear ha
        generalize ((s[k]'hlt).toNat : Int) = c at *
        have HR : Hid _ := HTT.out.rune c hc0 (by omega)
        by_cases h1 : 97 ≤ c ∧ c ≤ 122
        · obtain ⟨h1a, h1b⟩ := h1
          go_wp2
          go_roundg (s.size - (k + 1))
          case measure => omega
          case rel => exact ⟨k + 1, by omega, rfl, rfl, by show _ = _; rw [HX.out, HO.out, HY.out (.inl ⟨h1a, h1b⟩)]; rfl⟩
        by_cases h2 : 48 ≤ c ∧ c ≤ 57
        · obtain ⟨h2a, h2b⟩ := h2
          go_wp2
          go_roundg (s.size - (k + 1))
          case measure => omega
          case rel => exact ⟨k + 1, by omega, rfl, rfl, by show _ = _; rw [HX.out, HO.out, HY.out (.inr (.inl ⟨h2a, h2b⟩))]; rfl⟩
        by_cases h3 : c = 45
        · have h3' : (c == 45) = true := beq_iff_eq.2 h3
          have h3a : c < 48 := by omega
          have HC : Hid (c = 45) := h3
          clear h3
          go_wp2
          go_roundg (s.size - (k + 1))
          case measure => omega
          case rel => exact ⟨k + 1, by omega, rfl, rfl, by show _ = _; rw [HX.out, HO.out, HY.out (.inr (.inr HC.out))]; rfl⟩
        · have h3' : (c == 45) = false := beq_eq_false_iff_ne.2 h3
          have HE := HBAD.out (HN.out (by omega))
          have HEE : Hid (ok = false) := HE
          have hor : c < 48 ∨ (57 < c ∧ c < 97) ∨ 122 < c := by omega
          clear h1 h2 h3 HE
          rcases hor with h4 | ⟨h4, h5⟩ | h4
          · have d1 : decide ((97 : Int) ≤ c) = false := decide_eq_false (by omega)
            have d3 : decide ((48 : Int) ≤ c) = false := decide_eq_false (by omega)
            go_wp2
            go_ret
            exact ⟨⟨_, rfl, by rw [HEE.out]; exact HR.out⟩, ((HB.out _).alloc (HB.out (k + 1)).size _).drew⟩
          · have d1 : decide ((97 : Int) ≤ c) = false := decide_eq_false (by omega)
            have d3 : decide ((48 : Int) ≤ c) = true := decide_eq_true (by omega)
            have d4 : decide (c ≤ 57) = false := decide_eq_false (by omega)
            go_wp2
            go_ret
            exact ⟨⟨_, rfl, by rw [HEE.out]; exact HR.out⟩, ((HB.out _).alloc (HB.out (k + 1)).size _).drew⟩
          · have d1 : decide ((97 : Int) ≤ c) = true := decide_eq_true (by omega)
            have d2 : decide (c ≤ 122) = false := decide_eq_false (by omega)
            have d3 : decide ((48 : Int) ≤ c) = true := decide_eq_true (by omega)
            have d4 : decide (c ≤ 57) = false := decide_eq_false (by omega)
            go_wp2
            go_ret
            exact ⟨⟨_, rfl, by rw [HEE.out]; exact HR.out⟩, ((HB.out _).alloc (HB.out (k + 1)).size _).drew⟩
      · have hnx := fun ty => run_next_any (P := Tryf.prog) w s k ty hlt
        have hd := decode_high s k hlt ha
        have HEE : Hid (ok = false) := HBAD.out (okB_no _ (by omega))
        obtain ⟨hd0, hd1⟩ := hd
        generalize Utf8.decode s k = d at *
        obtain ⟨r, m⟩ := d
        have hr0 : (128 : Int) ≤ (r : Int) := by simp at hd0; omega
        have hr1 : (r : Int) ≤ 1114111 := by simp at hd1; omega
        have HR : Hid _ := HTT.out.rune (r : Int) (by omega) (by omega)
        clear hd0 hd1 ha
        generalize (r : Int) = c at *
        have h3' : (c == 45) = false := beq_eq_false_iff_ne.2 (by omega)
        have d1 : decide ((97 : Int) ≤ c) = true := decide_eq_true (by omega)
        have d2 : decide (c ≤ 122) = false := decide_eq_false (by omega)
        have d3 : decide ((48 : Int) ≤ c) = true := decide_eq_true (by omega)
        have d4 : decide (c ≤ 57) = false := decide_eq_false (by omega)
        go_wp2
        go_ret
        exact ⟨⟨_, rfl, by rw [HEE.out]; exact HR.out⟩, ((HB.out _).alloc (HB.out (k + m)).size _).drew⟩
    · have hnx := fun ty => run_next_end (P := Tryf.prog) w s k ty hlt
      have HAll : Hid (okAll s.data.toList = true) := by
        have h := HO.out
        rw [List.take_of_length_le (by simp; omega)] at h
        exact h
      by_cases he : s.toList.isEmpty = true
      · have HEE : Hid (ok = false) := by
          have h := HOK.out
          rw [Lib.toList_data] at he
          rw [HAll.out, he] at h
          exact h.symm
        go_wp2
        go_ret
        exact ⟨⟨_, rfl, by rw [HEE.out, Lib.toList_data]; rfl⟩, HB.out k⟩
      · have he' : s.toList.isEmpty = false := by simpa using he
        have HEE : Hid (ok = true) := by
          have h := HOK.out
          rw [Lib.toList_data] at he'
          rw [HAll.out, he'] at h
          exact h.symm
        clear he
        go_wp2
        go_ret
        exact ⟨⟨_, rfl, by rw [HEE.out, Lib.toList_data]; rfl⟩, HB.out k⟩

end Go.Proofs.Qxb6630568aFmt
