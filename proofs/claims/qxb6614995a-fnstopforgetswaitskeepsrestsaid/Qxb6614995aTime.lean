import Derived.Test.Qxb6614995aBytes
import Derived.Laws.BitsAllLaws
namespace Go.Proofs.Qxb6614995a.stop
open Go.ChangeShapes Go.WideShapes Go.ChangeAt Go.RowKit

theorem bit63 (x : Int) (h0 : 0 ≤ x) (h1 : x < 1000000000) : bits .and .u64 x 9223372036854775808 = 0 := by
  rw [u64_and x 9223372036854775808 h0 (by omega) (by omega) (by omega)]
  have e : (9223372036854775808 : Int).toNat = 2 ^ 63 := by decide
  rw [e, nat_bit]
  have : x.toNat / 2 ^ 63 = 0 := Nat.div_eq_of_lt (by omega)
  rw [this]; rfl
theorem and_nought : bits .and .u64 0 1073741823 = 0 := by
  rw [u64_and 0 1073741823 (by omega) (by omega) (by omega) (by omega)]; simp
theorem andNot_nought : bits .andNot .u64 0 1073741823 = 0 := by
  rw [u64_andNot 0 1073741823 (by omega) (by omega) (by omega) (by omega)]; simp
theorem or_nought (x : Int) (h0 : 0 ≤ x) (h1 : x < 1000000000) : bits .or .u64 0 x = x := by
  rw [u64_or 0 x (by omega) (by omega) h0 (by omega)]; simp; omega

theorem nsec_zero (b : Nat) (w : World) (h : w.cell? ⟨b, 0, none⟩ = some (.int .u64 0)) :
    Calls Try.prog 43 #[.pointer (some ⟨b, 0, none⟩)] w fun e w' => e = .returned (.int .i32 0) ∧ w' = w := by
  have e := and_nought
  have e2 : wrap32 0 = 0 := by unfold wrap32; decide
  go_enter Try.func43, Try.ntmps43
  go_wp2
  go_ret
  exact ⟨rfl, rfl⟩

theorem addSec_any (b : Nat) (d x : Int) (w : World) (h : w.cell? ⟨b, 0, none⟩ = some (.int .u64 x)) (hx0 : 0 ≤ x) (hx1 : x < 1000000000) (h1 : w.cell? ⟨b, 1, none⟩ = some (.int .i64 0)) (hf : w.frozen? ⟨b, 1, none⟩ = false) :
    Calls Try.prog 44 #[.pointer (some ⟨b, 0, none⟩), .int .i64 d] w fun e w' => e = .returned (.tuple #[]) ∧ ∃ y, w' = w.setCell ⟨b, 1, none⟩ (.int .i64 y) := by
  have e := bit63 x hx0 hx1
  go_enter Try.func44, Try.ntmps44
  go_wp2
  all_goals (go_end0; exact ⟨rfl, _, rfl⟩)

theorem tmod_bounds (d : Int) : -1000000000 < d.tmod 1000000000 ∧ d.tmod 1000000000 < 1000000000 :=
  ⟨by have := Int.lt_tmod_of_pos d (b := 1000000000) (by omega); omega, Int.tmod_lt_of_pos d (by omega)⟩

set_option maxHeartbeats 1000000 in
theorem add_pos (d : Int) (ht0 : 0 ≤ d.tmod 1000000000) (ht1 : d.tmod 1000000000 < 1000000000) (w : World) :
    Calls Try.prog 35 #[.agg #[.int .u64 0, .int .i64 0, .pointer none], .int .i64 d] w fun e w' => ∃ x y : Int, e = .returned (.agg #[.int .u64 x, .int .i64 y, .pointer none]) ∧ Below w.heap.size w w' := by
  have e1 := andNot_nought
  have e2 := or_nought _ ht0 ht1
  have e3 := bit63 _ ht0 ht1
  go_enter Try.func35, Try.ntmps35
  go_wp2_with (go_at_call 43; refine (nsec_zero _ _ ?_).mono ?_; (simp [go_sem]); rintro e w' ⟨rfl, rfl⟩)
  refine (addSec_any w.heap.size _ (d.tmod 1000000000) _ ?_ ht0 ht1 ?_ ?_).mono ?_
  · simp [go_sem]
  · simp [go_sem]
  · simp [go_sem]
  rintro e w' ⟨rfl, y, rfl⟩
  go_wp2
  exact bodyPost_ret (v := .agg #[.int .u64 (d.tmod 1000000000), .int .i64 y, .pointer none]) (by simp [results, Try.results35, go_sem]) rfl ⟨_, y, rfl, by
    repeat (first | exact Below.refl _ _ | refine Below.alloc ?_ (by simp) _ | refine Below.setCell ?_ (by simp) _)⟩

set_option maxHeartbeats 1000000 in
theorem add_neg (d : Int) (ht0 : d.tmod 1000000000 < 0) (ht1 : -1000000000 < d.tmod 1000000000) (w : World) :
    Calls Try.prog 35 #[.agg #[.int .u64 0, .int .i64 0, .pointer none], .int .i64 d] w fun e w' => ∃ x y : Int, e = .returned (.agg #[.int .u64 x, .int .i64 y, .pointer none]) ∧ Below w.heap.size w w' := by
  have e1 := andNot_nought
  have h0 : 0 ≤ d.tmod 1000000000 + 1000000000 := by omega
  have h1 : d.tmod 1000000000 + 1000000000 < 1000000000 := by omega
  have e2 := or_nought _ h0 h1
  have e3 := bit63 _ h0 h1
  go_enter Try.func35, Try.ntmps35
  go_wp2_with (go_at_call 43; refine (nsec_zero _ _ ?_).mono ?_; (simp [go_sem]); rintro e w' ⟨rfl, rfl⟩)
  refine (addSec_any w.heap.size _ (d.tmod 1000000000 + 1000000000) _ ?_ h0 h1 ?_ ?_).mono ?_
  · simp [go_sem]
  · simp [go_sem]
  · simp [go_sem]
  rintro e w' ⟨rfl, y, rfl⟩
  go_wp2
  exact bodyPost_ret (v := .agg #[.int .u64 (d.tmod 1000000000 + 1000000000), .int .i64 y, .pointer none]) (by simp [results, Try.results35, go_sem]) rfl ⟨_, y, rfl, by
    repeat (first | exact Below.refl _ _ | refine Below.alloc ?_ (by simp) _ | refine Below.setCell ?_ (by simp) _)⟩

/-- 'Time{}.Add(d)': a Time, in new memory alone. -/
theorem add_any (d : Int) (w : World) :
    Calls Try.prog 35 #[.agg #[.int .u64 0, .int .i64 0, .pointer none], .int .i64 d] w fun e w' => ∃ x y : Int, e = .returned (.agg #[.int .u64 x, .int .i64 y, .pointer none]) ∧ Below w.heap.size w w' := by
  obtain ⟨h1, h2⟩ := tmod_bounds d
  by_cases h : 0 ≤ d.tmod 1000000000
  · exact add_pos d h h2 w
  · exact add_neg d (by omega) h1 w
end Go.Proofs.Qxb6614995a.stop
