import Derived.Test.Qxb6609017aRows
import Derived.WalkKit
import Derived.WalkSpells
import Derived.WalkLawsBesides
import Derived.ProofKit
import Derived.OpenShut
import Derived.ShutString
import Derived.Lib.Strings
import Derived.Deep.QuietTactic
import Derived.BigQuiet
namespace Go.Proofs.Qxb6609017a.opt
open Go.ChangeShapes Go.WideShapes Go.ChangeAt Go.RowKit

/-! ### The plain functions: no Go in sight -/
def hasB (s p : ByteArray) : Bool := Lib.hasPrefix s.data.toList p.data.toList
def trim (s p : ByteArray) : ByteArray := ⟨(Lib.trimPrefix s.data.toList p.data.toList).toArray⟩

theorem trim_size (s p : ByteArray) : (trim s p).size ≤ s.size := by
  have := Lib.trimPrefix_le s.data.toList p.data.toList
  show (Lib.trimPrefix s.data.toList p.data.toList).toArray.size ≤ s.size
  rw [List.size_toArray, Lib.size_eq]
  exact this
theorem hasPrefix_append (a b p : List UInt8) (h : p.length ≤ a.length) : Lib.hasPrefix (a ++ b) p = Lib.hasPrefix a p := by
  rw [← Lib.hasPrefix_of_take, ← Lib.hasPrefix_of_take, List.take_append_of_le_length h]
  have h1 : decide (p.length ≤ (a ++ b).length) = true := decide_eq_true (by simp; omega)
  have h2 : decide (p.length ≤ a.length) = true := decide_eq_true h
  rw [h1, h2]
theorem hasPrefix_self (p x : List UInt8) : Lib.hasPrefix (p ++ x) p = true := by
  rw [← Lib.hasPrefix_of_take]
  simp
theorem data_append (a b : ByteArray) : (a ++ b).data.toList = a.data.toList ++ b.data.toList := by simp [ByteArray.data_append]
theorem ext_list {a b : ByteArray} (h : a.data.toList = b.data.toList) : a = b := by
  cases a; cases b
  congr
  exact Array.ext' h

/-- Past the length of p, what is appended stays appended. -/
theorem trim_append (a b p : ByteArray) (h : p.size ≤ a.size) : trim (a ++ b) p = trim a p ++ b := by
  apply ext_list
  rw [data_append]
  show Lib.trimPrefix (a ++ b).data.toList p.data.toList = Lib.trimPrefix a.data.toList p.data.toList ++ b.data.toList
  rw [data_append]
  rw [Lib.size_eq, Lib.size_eq] at h
  unfold Lib.trimPrefix
  rw [hasPrefix_append _ _ _ h]
  split
  · rw [List.drop_append_of_le_length h]
  · rfl
/-- What is laid ahead is taken off. -/
theorem trim_self (p x : ByteArray) : trim (p ++ x) p = x := by
  apply ext_list
  show Lib.trimPrefix (p ++ x).data.toList p.data.toList = x.data.toList
  rw [data_append]
  unfold Lib.trimPrefix
  rw [hasPrefix_self]
  simp
theorem trim_yes (s p : ByteArray) (h : hasB s p = true) : p ++ trim s p = s := by
  apply ext_list
  rw [data_append]
  show p.data.toList ++ Lib.trimPrefix s.data.toList p.data.toList = s.data.toList
  unfold Lib.trimPrefix
  unfold hasB at h
  rw [h]
  simp only [if_true]
  rw [← Lib.hasPrefix_of_take] at h
  simp only [Bool.and_eq_true, beq_iff_eq] at h
  have e := List.take_append_drop p.data.toList.length s.data.toList
  rw [h.2] at e
  exact e
theorem trim_no (s p : ByteArray) (h : hasB s p = false) : trim s p = s := by
  apply ext_list
  show Lib.trimPrefix s.data.toList p.data.toList = s.data.toList
  unfold Lib.trimPrefix
  unfold hasB at h
  rw [h]
  rfl

/-! ### The walks -/
theorem hasPrefix_any (s p : ByteArray) (w : World) : Calls Try.prog 11 #[.string s, .string p] w fun e w' => e = .returned (.bool (hasB s p)) ∧ w = w' := by
  have e := Lib.hasPrefix_raw s p
  by_cases h : p.size ≤ s.size
  · rw [decide_eq_true h, Bool.true_and] at e
    have E : Hid (((s.extract 0 p.size).toList == p.toList) = hasB s p) := e
    clear e
    go_enter Try.func11, Try.ntmps11
    go_wp2
    go_ret
    exact ⟨by rw [← E.out]; rfl, rfl⟩
  · rw [decide_eq_false h, Bool.false_and] at e
    have E : Hid (false = hasB s p) := e
    clear e
    go_enter Try.func11, Try.ntmps11
    go_wp2
    go_ret
    exact ⟨by rw [← E.out]; rfl, rfl⟩

theorem trim10 (s p : ByteArray) (_hs : s.size ≤ maxLen) (w : World) : Calls Try.prog 10 #[.string s, .string p] w fun e w' => e = .returned (.string (trim s p)) ∧ w = w' := by
  unfold maxLen at _hs
  cases h : hasB s p
  · have e : trim s p = s := trim_no s p h
    have E : Hid (trim s p = s) := e
    clear e
    go_enter Try.func10, Try.ntmps10
    go_wp2_with (go_at_call 11; refine (hasPrefix_any s p _).mono ?_; rintro e w' ⟨rfl, rfl⟩)
    go_ret
    exact ⟨by rw [E.out]; rfl, rfl⟩
  · have h' := h
    unfold hasB at h'
    rw [← Lib.hasPrefix_raw] at h'
    simp only [Bool.and_eq_true, decide_eq_true_eq] at h'
    have e : trim s p = s.extract p.size s.size := Lib.trimPrefix_hit s p h'.1 h'.2
    have E : Hid (trim s p = s.extract p.size s.size) := e
    have hle := h'.1
    clear e h'
    go_enter Try.func10, Try.ntmps10
    go_wp2_with (go_at_call 11; refine (hasPrefix_any s p _).mono ?_; rintro e w' ⟨rfl, rfl⟩)
    go_ret
    exact ⟨by rw [E.out]; rfl, rfl⟩

theorem trim9 (s p : ByteArray) (hs : s.size ≤ maxLen) (w : World) : Calls Try.prog 9 #[.string s, .string p] w fun e w' => e = .returned (.string (trim s p)) ∧ w = w' := by
  go_enter Try.func9, Try.ntmps9
  go_wp2_with (go_at_call 10; refine (trim10 s p hs _).mono ?_; rintro e w' ⟨rfl, rfl⟩)
  go_ret
  exact ⟨rfl, rfl⟩

/-- 'protoc-gen-' -/
def pre : ByteArray := { data := #[112, 114, 111, 116, 111, 99, 45, 103, 101, 110, 45] }

theorem option_any (s d : ByteArray) (hs : s.size ≤ maxLen) (w : World) : Calls Try.prog 6 #[.agg #[.string s, .string d]] w fun e w' => e = .returned (.string (trim s pre)) ∧ Below w.heap.size w w' := by
  go_enter Try.func6, Try.ntmps6
  go_wp2_with (go_at_call 9; refine (trim9 s pre hs _).mono ?_; rintro e w' ⟨rfl, rfl⟩)
  go_ret
  exact ⟨rfl, (Below.refl _ _).alloc (Nat.le_refl _) _⟩
end Go.Proofs.Qxb6609017a.opt
