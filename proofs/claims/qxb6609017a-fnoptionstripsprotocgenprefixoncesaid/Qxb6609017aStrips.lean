import Derived.Test.Qxb6609017aOpt
namespace Go.Proofs.Qxb6609017a.opt
open Go.ChangeShapes Go.WideShapes Go.ChangeAt Go.RowKit

theorem bytes2_yes (a d : ByteArray) (h : a.size + d.size ≤ 1048576) (w : World) :
    Calls Try.prog 5 #[.string a, .string d] w fun x w' => x = .returned (.bool true) ∧ w = w' := by
  have h1 : ¬ ((1048576 : Int) < (a.size : Int)) := by omega
  have h3 : ¬ ((1048576 : Int) < (d.size : Int)) := by omega
  have h5 : ¬ ((1048576 : Int) < (a.size : Int) + (d.size : Int)) := by omega
  go_enter Try.func5, Try.ntmps5
  go_wp2
  go_ret
  exact ⟨rfl, rfl⟩

theorem bytes2_no (a d : ByteArray) (h : 1048576 < a.size + d.size) (ha : a.size ≤ maxLen) (hd : d.size ≤ maxLen) (w : World) :
    Calls Try.prog 5 #[.string a, .string d] w fun x w' => x = .returned (.bool false) ∧ w = w' := by
  unfold maxLen at ha hd
  by_cases h1 : a.size ≤ 1048576
  · by_cases h4 : d.size ≤ 1048576
    · have h5 : (1048576 : Int) < (a.size : Int) + (d.size : Int) := by omega
      go_enter Try.func5, Try.ntmps5
      go_wp2
      go_ret
      exact ⟨rfl, rfl⟩
    · have h5 : (1048576 : Int) < (d.size : Int) := by omega
      go_enter Try.func5, Try.ntmps5
      go_wp2
      go_ret
      exact ⟨rfl, rfl⟩
  · have h5 : (1048576 : Int) < (a.size : Int) := by omega
    go_enter Try.func5, Try.ntmps5
    go_wp2
    go_ret
    exact ⟨rfl, rfl⟩

theorem option_eq' (s d t : ByteArray) (ht : trim s pre = t) (hs : s.size ≤ maxLen) (w : World) : Calls Try.prog 6 #[.agg #[.string s, .string d]] w fun e w' => e = .returned (.string t) ∧ Below w.heap.size w w' := by
  subst ht
  exact option_any s d hs w

/-- What b1HasPrefix's loop knows at its k-th head, and what its two ways out say. -/
theorem hasB_of_bytes (s p : ByteArray) (h : p.size ≤ s.size) (he : ∀ j (h1 : j < s.size) (h2 : j < p.size), s[j] = p[j]) : hasB s p = true := by
  unfold hasB
  rw [← Lib.hasPrefix_raw]
  simp only [Bool.and_eq_true, decide_eq_true_eq, beq_iff_eq]
  refine ⟨h, ?_⟩
  rw [Lib.extract_toList, Lib.toList_data]
  apply List.ext_getElem
  · rw [Lib.size_eq, Lib.size_eq] at h
    rw [Lib.size_eq]
    simp
    simp at h
    omega
  · intro j h1 h2
    have h2' : j < p.size := by rw [Lib.size_eq]; exact h2
    have := he j (by omega) h2'
    simp only [List.drop_zero, List.getElem_take]
    exact this
theorem hasB_not (s p : ByteArray) (j : Nat) (h1 : j < s.size) (h2 : j < p.size) (hne : s[j] ≠ p[j]) : hasB s p = false := by
  cases h : hasB s p
  · rfl
  · exfalso
    unfold hasB at h
    rw [← Lib.hasPrefix_raw] at h
    simp only [Bool.and_eq_true, decide_eq_true_eq, beq_iff_eq] at h
    obtain ⟨hl, he⟩ := h
    rw [Lib.extract_toList, Lib.toList_data] at he
    apply hne
    have h2' : j < p.data.toList.length := by rw [← Lib.size_eq]; exact h2
    have h3 : p.data.toList[j] = s.data.toList[j]'(by rw [← Lib.size_eq]; exact h1) := by
      have e := congrArg (fun l : List UInt8 => l[j]?) he
      simp only [List.drop_zero, Nat.sub_zero, List.getElem?_take, h2, if_true] at e
      rw [List.getElem?_eq_getElem (by rw [← Lib.size_eq]; exact h1), List.getElem?_eq_getElem h2'] at e
      exact (Option.some.inj e).symm
    exact h3.symm
theorem hasB_short (s p : ByteArray) (h : s.size < p.size) : hasB s p = false := by
  unfold hasB
  rw [← Lib.hasPrefix_raw, decide_eq_false (by omega), Bool.false_and]

theorem b1_short (s p : ByteArray) (h : s.size < p.size) (w : World) : Calls Try.prog 7 #[.string s, .string p] w fun e w' => e = .returned (.bool (hasB s p)) ∧ ∃ n, w' = w.drewN n := by
  have E : Hid (hasB s p = false) := hasB_short s p h
  have hi : (s.size : Int) < (p.size : Int) := by omega
  go_enter Try.func7, Try.ntmps7
  go_wp2
  go_ret
  exact ⟨by rw [E.out]; rfl, 0, rfl⟩

set_option maxHeartbeats 1000000 in
theorem b1_long (s p : ByteArray) (hp : p.size ≤ 65536) (h : p.size ≤ s.size) (w : World) : Calls Try.prog 7 #[.string s, .string p] w fun e w' => e = .returned (.bool (hasB s p)) ∧ ∃ n, w' = w.drewN n := by
  have hi : (p.size : Int) ≤ (s.size : Int) := by omega
  go_enter Try.func7, Try.ntmps7
  go_wp2
  go_loopw [5] (fun i wr => ∃ k : Nat, k ≤ p.size ∧ i = .int .i64 k ∧ (∀ j (h1 : j < s.size) (h2 : j < p.size), j < k → s[j] = p[j]) ∧ ∃ n, wr = w.drewN n) (fun i _ => p.size - (intOf i).toNat)
  case atStart => exact ⟨0, Nat.zero_le _, rfl, (fun j _ _ hj => by omega), 0, rfl⟩
  case round =>
    obtain ⟨k, hk, rfl, hall, m, hwr⟩ := hrel
    have HW : Hid (wr = w.drewN m) := hwr
    have HA : Hid (∀ j (h1 : j < s.size) (h2 : j < p.size), j < k → s[j] = p[j]) := hall
    clear hwr hall
    by_cases hlt : k < p.size
    · have hks : k < s.size := by omega
      have hi1 : (k : Int) < (p.size : Int) := by omega
      have hi2 : (k : Int) < (s.size : Int) := by omega
      by_cases heq : s[k] = p[k]
      · have hne : ((s[k].toNat : Int) != (p[k].toNat : Int)) = false := by rw [heq]; simp
        have HQ : Hid (s[k] = p[k]) := heq
        clear heq
        go_wp2
        go_quiet (fail)
        go_wp2
        go_roundw
        case rel =>
          exact ⟨k + 1, by omega, by go_num, (fun j h1 h2 hj => by
            by_cases e : j = k
            · subst e; exact HQ.out
            · exact HA.out j h1 h2 (by omega)), m + nq, by rw [HW.out, World.drewN_drewN]⟩
        case measure => simp [intOf]; omega
      · have hne : ((s[k].toNat : Int) != (p[k].toNat : Int)) = true := by
          rw [bne_iff_ne]
          intro e
          exact heq (UInt8.toNat_inj.1 (by omega))
        have E : Hid (hasB s p = false) := hasB_not s p k hks hlt heq
        clear heq
        go_wp2
        go_quiet (fail)
        go_wp2
        go_ret
        exact ⟨by rw [E.out]; rfl, m + nq, by rw [HW.out, World.drewN_drewN]⟩
    · have E : Hid (hasB s p = true) := hasB_of_bytes s p h (fun j h1 h2 => HA.out j h1 h2 (by omega))
      go_wp2
      go_ret
      exact ⟨by rw [E.out]; rfl, m, HW.out⟩

theorem b1_any (s p : ByteArray) (hp : p.size ≤ 65536) (w : World) : Calls Try.prog 7 #[.string s, .string p] w fun e w' => e = .returned (.bool (hasB s p)) ∧ ∃ n, w' = w.drewN n := by
  by_cases h : p.size ≤ s.size
  · exact b1_long s p hp h w
  · exact b1_short s p (by omega) w

theorem ret_bool {b : Bool} (h : b = true) : Ending.returned (.bool b) = .returned (.bool true) := by rw [h]
theorem below_draws {B : Nat} {a w : World} (h : Below B a w) (n : Nat) : Below B a (w.drewN n) := ⟨h.os, h.tape, h.output, h.size, h.block⟩

theorem strips_unsized (a d : ByteArray) (h : 1048576 < a.size + d.size) (ha : a.size ≤ maxLen) (hd : d.size ≤ maxLen) (w : World) :
    Calls Try.prog 3 #[.string a, .string d] w fun e w' => e = .returned (.bool true) ∧ Below w.heap.size w w' := by
  go_enter Try.func3, Try.ntmps3
  go_wp2_with (go_at_call 5; refine (bytes2_no a d h ha hd _).mono ?_; rintro e w' ⟨rfl, rfl⟩)
  go_ret
  exact ⟨rfl, Below.refl _ _⟩

theorem strips_out (a d : ByteArray) (h : a.size + d.size ≤ 1048576) (ho : 65536 < a.size ∨ (a.size ≤ 65536 ∧ 65536 < d.size)) (w : World) :
    Calls Try.prog 3 #[.string a, .string d] w fun e w' => e = .returned (.bool true) ∧ Below w.heap.size w w' := by
  rcases ho with h1 | ⟨h1, h2⟩
  all_goals
    go_enter Try.func3, Try.ntmps3
    go_wp2_with (go_at_call 5; refine (bytes2_yes a d h _).mono ?_; rintro e w' ⟨rfl, rfl⟩)
    go_ret
    exact ⟨rfl, Below.refl _ _⟩

set_option maxHeartbeats 1000000 in
theorem strips_in (a d : ByteArray) (h : a.size + d.size ≤ 1048576) (h1 : a.size ≤ 65536) (h2 : d.size ≤ 65536) (w : World) :
    Calls Try.prog 3 #[.string a, .string d] w fun e w' => e = .returned (.bool true) ∧ Below w.heap.size w w' := by
  have hp : pre.size = 11 := rfl
  have t1 := trim_size a pre
  have E1 : Hid (trim (pre ++ a) pre = a) := trim_self pre a
  go_enter Try.func3, Try.ntmps3
  go_wp2_with (go_at_call 5; refine (bytes2_yes a d h _).mono ?_; rintro e w' ⟨rfl, rfl⟩)
  refine (option_eq' (pre ++ a) d a E1.out (by have e2 : (pre ++ a).size = pre.size + a.size := ByteArray.size_append; unfold maxLen; omega) _).mono ?_
  rintro e w1 ⟨rfl, hb1⟩
  have c8 : w1.cell? ⟨w.heap.size, 0, none⟩ = some (.string a) := (hb1.cell (p := ⟨w.heap.size, 0, none⟩) (by simp; omega)).trans (by simp [go_sem])
  have c8' : w1.cell? ⟨w.heap.size, 1, none⟩ = some (.string d) := (hb1.cell (p := ⟨w.heap.size, 1, none⟩) (by simp; omega)).trans (by simp [go_sem])
  have HB1 : Hid (Below w.heap.size w w1) := (((Below.refl w.heap.size w).alloc (Nat.le_refl _) _).alloc (by simp) _).trans (hb1.mono (by simp; omega))
  clear hb1
  go_wp2_with fail
  refine (option_eq' a d (trim a pre) rfl (by unfold maxLen; omega) w1).mono ?_
  rintro e w2 ⟨rfl, hb2⟩
  have HB2 : Hid (Below w.heap.size w w2) := HB1.out.trans (hb2.mono HB1.out.size)
  clear hb2 c8 c8'
  go_wp2_with fail
  cases hh : hasB a pre
  · have E2 : Hid (trim a pre = a) := trim_no a pre hh
    refine (b1_any a pre (by omega) w2).mono ?_
    rintro e w3 ⟨rfl, n3, rfl⟩
    go_wp2
    go_ret
    exact ⟨ret_bool (b := ((trim a pre).toList == a.toList)) (by rw [E2.out]; simp), below_draws HB2.out n3⟩
  · have E2 : Hid (pre ++ trim a pre = a) := trim_yes a pre hh
    refine (b1_any a pre (by omega) w2).mono ?_
    rintro e w3 ⟨rfl, n3, rfl⟩
    go_wp2
    go_ret
    exact ⟨ret_bool (b := ((pre ++ trim a pre).toList == a.toList)) (by rw [E2.out]; simp), below_draws HB2.out n3⟩

/-- THE LAW, whatever the two strings. -/
theorem strips_any (a d : ByteArray) (ha : a.size ≤ maxLen) (hd : d.size ≤ maxLen) (w : World) :
    Calls Try.prog 3 #[.string a, .string d] w fun e w' => e = .returned (.bool true) ∧ Below w.heap.size w w' := by
  by_cases h : 1048576 < a.size + d.size
  · exact strips_unsized a d h ha hd w
  · by_cases ho : 65536 < a.size ∨ (a.size ≤ 65536 ∧ 65536 < d.size)
    · exact strips_out a d (by omega) ho w
    · exact strips_in a d (by omega) (by omega) (by omega) w
end Go.Proofs.Qxb6609017a.opt
