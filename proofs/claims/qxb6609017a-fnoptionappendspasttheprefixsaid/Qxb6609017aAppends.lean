import Derived.Test.Qxb6609017aOpt
namespace Go.Proofs.Qxb6609017a.opt
open Go.ChangeShapes Go.WideShapes Go.ChangeAt Go.RowKit

theorem bytes3_yes (a b d : ByteArray) (h : a.size + b.size + d.size ≤ 1048576) (w : World) :
    Calls Try.prog 8 #[.string a, .string b, .string d] w fun x w' => x = .returned (.bool true) ∧ w = w' := by
  have h1 : ¬ ((1048576 : Int) < (a.size : Int)) := by omega
  have h2 : ¬ ((1048576 : Int) < (b.size : Int)) := by omega
  have h3 : ¬ ((1048576 : Int) < (d.size : Int)) := by omega
  have h4 : ¬ ((1048576 : Int) < (a.size : Int) + (b.size : Int)) := by omega
  have h5 : ¬ ((1048576 : Int) < (a.size : Int) + (b.size : Int) + (d.size : Int)) := by omega
  go_enter Try.func8, Try.ntmps8
  go_wp2
  go_ret
  exact ⟨rfl, rfl⟩

theorem bytes3_no (a b d : ByteArray) (h : 1048576 < a.size + b.size + d.size) (ha : a.size ≤ maxLen) (hb : b.size ≤ maxLen) (hd : d.size ≤ maxLen) (w : World) :
    Calls Try.prog 8 #[.string a, .string b, .string d] w fun x w' => x = .returned (.bool false) ∧ w = w' := by
  unfold maxLen at ha hb hd
  by_cases h1 : a.size ≤ 1048576
  · by_cases h2 : b.size ≤ 1048576
    · by_cases h3 : a.size + b.size ≤ 1048576
      · by_cases h4 : d.size ≤ 1048576
        · have h5 : (1048576 : Int) < (a.size : Int) + (b.size : Int) + (d.size : Int) := by omega
          go_enter Try.func8, Try.ntmps8
          go_wp2
          go_ret
          exact ⟨rfl, rfl⟩
        · have h5 : (1048576 : Int) < (d.size : Int) := by omega
          go_enter Try.func8, Try.ntmps8
          go_wp2
          go_ret
          exact ⟨rfl, rfl⟩
      · have h5 : (1048576 : Int) < (a.size : Int) + (b.size : Int) := by omega
        go_enter Try.func8, Try.ntmps8
        go_wp2
        go_ret
        exact ⟨rfl, rfl⟩
    · have h5 : (1048576 : Int) < (b.size : Int) := by omega
      go_enter Try.func8, Try.ntmps8
      go_wp2
      go_ret
      exact ⟨rfl, rfl⟩
  · have h5 : (1048576 : Int) < (a.size : Int) := by omega
    go_enter Try.func8, Try.ntmps8
    go_wp2
    go_ret
    exact ⟨rfl, rfl⟩

theorem appends_unsized (a b d : ByteArray) (h : 1048576 < a.size + b.size + d.size) (ha : a.size ≤ maxLen) (hb : b.size ≤ maxLen) (hd : d.size ≤ maxLen) (w : World) :
    Calls Try.prog 4 #[.string a, .string b, .string d] w fun e w' => e = .returned (.bool true) ∧ Below w.heap.size w w' := by
  go_enter Try.func4, Try.ntmps4
  go_wp2_with (go_at_call 8; refine (bytes3_no a b d h ha hb hd _).mono ?_; rintro e w' ⟨rfl, rfl⟩)
  go_ret
  exact ⟨rfl, Below.refl _ _⟩

theorem appends_out (a b d : ByteArray) (h : a.size + b.size + d.size ≤ 1048576) (ho : 65536 < a.size ∨ (a.size ≤ 65536 ∧ 65536 < b.size) ∨ (a.size ≤ 65536 ∧ b.size ≤ 65536 ∧ 65536 < d.size) ∨ (a.size ≤ 65536 ∧ b.size ≤ 65536 ∧ d.size ≤ 65536 ∧ a.size < 11)) (w : World) :
    Calls Try.prog 4 #[.string a, .string b, .string d] w fun e w' => e = .returned (.bool true) ∧ Below w.heap.size w w' := by
  rcases ho with h1 | ⟨h1, h2⟩ | ⟨h1, h2, h3⟩ | ⟨h1, h2, h3, h4⟩
  all_goals
    go_enter Try.func4, Try.ntmps4
    go_wp2_with (go_at_call 8; refine (bytes3_yes a b d h _).mono ?_; rintro e w' ⟨rfl, rfl⟩)
    go_ret
    exact ⟨rfl, Below.refl _ _⟩

theorem option_eq (s d t : ByteArray) (ht : trim s pre = t) (hs : s.size ≤ maxLen) (w : World) : Calls Try.prog 6 #[.agg #[.string s, .string d]] w fun e w' => e = .returned (.string t) ∧ Below w.heap.size w w' := by
  subst ht
  exact option_any s d hs w

set_option maxHeartbeats 1000000 in
theorem appends_in (a b d : ByteArray) (h : a.size + b.size + d.size ≤ 1048576) (h1 : a.size ≤ 65536) (h2 : b.size ≤ 65536) (h3 : d.size ≤ 65536) (h4 : 11 ≤ a.size) (w : World) :
    Calls Try.prog 4 #[.string a, .string b, .string d] w fun e w' => e = .returned (.bool true) ∧ Below w.heap.size w w' := by
  have hp : pre.size = 11 := rfl
  have e1 : trim (a ++ b) pre = trim a pre ++ b := trim_append a b pre (by omega)
  have e2 : trim (pre ++ a ++ b) pre = a ++ b := by rw [ByteArray.append_assoc]; exact trim_self pre (a ++ b)
  have t1 := trim_size a pre
  have hab : (a ++ b).size = a.size + b.size := ByteArray.size_append
  have E1 : Hid (trim (a ++ b) pre = trim a pre ++ b) := e1
  have E2 : Hid (trim (pre ++ a ++ b) pre = a ++ b) := e2
  clear e1 e2
  go_enter Try.func4, Try.ntmps4
  go_wp2_with (go_at_call 8; refine (bytes3_yes a b d h _).mono ?_; rintro e w' ⟨rfl, rfl⟩)
  refine (option_eq (a ++ b) d (trim a pre ++ b) E1.out (by unfold maxLen; omega) _).mono ?_
  rintro e w1 ⟨rfl, hb1⟩
  have c8 : w1.cell? ⟨w.heap.size + 1, 0, none⟩ = some (.string a) := (hb1.cell (p := ⟨w.heap.size + 1, 0, none⟩) (by simp)).trans (by simp [go_sem])
  have c8' : w1.cell? ⟨w.heap.size + 1, 1, none⟩ = some (.string d) := (hb1.cell (p := ⟨w.heap.size + 1, 1, none⟩) (by simp)).trans (by simp [go_sem])
  have c9 : w1.cell? ⟨w.heap.size + 1 + 1, 0, none⟩ = some (.string (pre ++ a ++ b)) := (hb1.cell (p := ⟨w.heap.size + 1 + 1, 0, none⟩) (by simp)).trans (by simp [go_sem, pre])
  have c9' : w1.cell? ⟨w.heap.size + 1 + 1, 1, none⟩ = some (.string d) := (hb1.cell (p := ⟨w.heap.size + 1 + 1, 1, none⟩) (by simp)).trans (by simp [go_sem])
  have HB1 : Hid (Below w.heap.size w w1) := ((((Below.refl w.heap.size w).alloc (Nat.le_refl _) _).alloc (by simp) _).alloc (by simp; omega) _).trans (hb1.mono (by simp; omega))
  have hs1 : w.heap.size + 1 + 1 + 1 ≤ w1.heap.size := by have := hb1.size; simpa using this
  clear hb1
  go_wp2_with fail
  refine (option_eq a d (trim a pre) rfl (by unfold maxLen; omega) w1).mono ?_
  rintro e w2 ⟨rfl, hb2⟩
  have d9 : w2.cell? ⟨w.heap.size + 1 + 1, 0, none⟩ = some (.string (pre ++ a ++ b)) := (hb2.cell (p := ⟨w.heap.size + 1 + 1, 0, none⟩) (by simp; omega)).trans c9
  have d9' : w2.cell? ⟨w.heap.size + 1 + 1, 1, none⟩ = some (.string d) := (hb2.cell (p := ⟨w.heap.size + 1 + 1, 1, none⟩) (by simp; omega)).trans c9'
  have HB2 : Hid (Below w.heap.size w w2) := HB1.out.trans (hb2.mono (by omega))
  clear hb2 c8 c8' c9 c9'
  go_wp2_with fail
  refine (option_eq (pre ++ a ++ b) d (a ++ b) E2.out (by have e1 : (pre ++ a ++ b).size = (pre ++ a).size + b.size := ByteArray.size_append; have e2 : (pre ++ a).size = pre.size + a.size := ByteArray.size_append; unfold maxLen; omega) w2).mono ?_
  rintro e w3 ⟨rfl, hb3⟩
  have HB3 : Hid (Below w.heap.size w w3) := HB2.out.trans (hb3.mono HB2.out.size)
  clear hb3
  go_wp2
  go_ret
  exact ⟨rfl, HB3.out⟩

/-- THE LAW, whatever the three strings. -/
theorem appends_any (a b d : ByteArray) (ha : a.size ≤ maxLen) (hb : b.size ≤ maxLen) (hd : d.size ≤ maxLen) (w : World) :
    Calls Try.prog 4 #[.string a, .string b, .string d] w fun e w' => e = .returned (.bool true) ∧ Below w.heap.size w w' := by
  by_cases h : 1048576 < a.size + b.size + d.size
  · exact appends_unsized a b d h ha hb hd w
  · by_cases ho : 65536 < a.size ∨ (a.size ≤ 65536 ∧ 65536 < b.size) ∨ (a.size ≤ 65536 ∧ b.size ≤ 65536 ∧ 65536 < d.size) ∨ (a.size ≤ 65536 ∧ b.size ≤ 65536 ∧ d.size ≤ 65536 ∧ a.size < 11)
    · exact appends_out a b d (by omega) ho w
    · exact appends_in a b d (by omega) (by omega) (by omega) (by omega) (by omega) w
end Go.Proofs.Qxb6609017a.opt
