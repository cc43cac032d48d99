import Derived.Test.Qxb6614974aRows
import Derived.WalkKit
import Derived.ProofKit
import Derived.ShutString
import Derived.Deep.QuietTactic
import Derived.BigQuiet
namespace Go.Proofs.Qxb6614974a.fnNestingDefaultAndOrder
open Go.ChangeShapes Go.WideShapes Go.ChangeAt Go.RowKit

theorem gtrans {a b c : World} (h1 : Grown a b) (h2 : Grown b c) : Grown a c :=
  ⟨World.keptBut_trans h1.1 h2.1, fun x => (h2.2.1 x).trans (h1.2.1 x), Nat.le_trans h1.2.2 h2.2.2⟩
theorem gdrewN {W w' : World} (h : Grown W w') (n : Nat) : Grown W (w'.drewN n) := h

/-- What 'limit' answers, with no Go in sight. -/
def lim (n d : Int) : Int := if n = 0 then d else if n < 0 then 0 else n

theorem limit_zero (d : Int) (w : World) : Calls Try.prog 29 #[.int .i64 0, .int .i64 d] w fun e w' => e = .returned (.int .i64 d) ∧ w' = w := by
  go_enter Try.func29, Try.ntmps29
  go_wp2
  go_ret
  exact ⟨rfl, rfl⟩

theorem limit_neg (n d : Int) (h : n < 0) (w : World) : Calls Try.prog 29 #[.int .i64 n, .int .i64 d] w fun e w' => e = .returned (.int .i64 0) ∧ w' = w := by
  have h0 : (n == 0) = false := by simp; omega
  go_enter Try.func29, Try.ntmps29
  go_wp2
  go_ret
  exact ⟨rfl, rfl⟩

theorem limit_pos (n d : Int) (h : 0 < n) (w : World) : Calls Try.prog 29 #[.int .i64 n, .int .i64 d] w fun e w' => e = .returned (.int .i64 n) ∧ w' = w := by
  have h0 : (n == 0) = false := by simp; omega
  have h1 : ¬ n < 0 := by omega
  go_enter Try.func29, Try.ntmps29
  go_wp2
  go_ret
  exact ⟨rfl, rfl⟩

theorem limit_any (n d : Int) (w : World) : Calls Try.prog 29 #[.int .i64 n, .int .i64 d] w fun e w' => e = .returned (.int .i64 (lim n d)) ∧ w' = w := by
  by_cases h0 : n = 0
  · subst h0; rw [show lim 0 d = d from by simp [lim]]; exact limit_zero d w
  · by_cases h1 : n < 0
    · rw [show lim n d = 0 from by simp [lim, h0, h1]]; exact limit_neg n d h1 w
    · rw [show lim n d = n from by simp [lim, h0, h1]]; exact limit_pos n d (by omega) w

theorem nesting_any (a : Bool) (b c n : Int) (d e f : Bool) (k : ByteArray) (w : World) :
    Calls Try.prog 24 #[.agg #[.bool a, .int .i64 b, .int .i64 c, .int .i64 n, .bool d, .bool e, .bool f], .string k] w
      fun x w' => x = .returned (.agg #[.int .i64 (lim n 10000), .string k]) ∧ Grown w w' := by
  go_enter Try.func24, Try.ntmps24
  go_wp2_with (go_at_call 29; refine (limit_any _ _ _).mono ?_; rintro e w' ⟨rfl, rfl⟩)
  exact bodyPost_ret (v := .agg #[.int .i64 (lim n 10000), .string k]) (by simp [results, Try.results24, go_sem]) rfl ⟨rfl, by repeat (first | exact Grown.refl _ | apply Grown.drew | apply Grown.alloc | apply Grown.setCell)⟩

theorem zz_any (a : Bool) (b c n : Int) (d e f : Bool) (k : ByteArray) (w : World) :
    Calls Try.prog 8 #[.agg #[.bool a, .int .i64 b, .int .i64 c, .int .i64 n, .bool d, .bool e, .bool f], .string k] w
      fun x w' => x = .returned (.tuple #[.int .i64 (lim n 10000), .string k]) ∧ Grown w w' := by
  go_enter Try.func8, Try.ntmps8
  go_wp2_with fail
  refine (nesting_any _ _ _ _ _ _ _ _ _).mono ?_
  rintro x w1 ⟨rfl, hg⟩
  go_wp2_with fail
  go_quiet (fail)
  go_wp2
  go_ret2
  exact ⟨rfl, gdrewN (((gtrans ((Grown.refl _).alloc _ _) hg).alloc _ _)) _⟩

theorem bytes_yes (n m : Int) (k : ByteArray) (h : k.size ≤ 1048576) (w : World) :
    Calls Try.prog 7 #[.int .i64 n, .int .i64 m, .string k] w fun x w' => x = .returned (.bool true) ∧ w' = w := by
  have h1 : ¬ ((1048576 : Int) < (k.size : Int)) := by omega
  go_enter Try.func7, Try.ntmps7
  go_wp2
  go_ret
  exact ⟨rfl, rfl⟩

theorem bytes_no (n m : Int) (k : ByteArray) (h : 1048576 < k.size) (w : World) :
    Calls Try.prog 7 #[.int .i64 n, .int .i64 m, .string k] w fun x w' => x = .returned (.bool false) ∧ w' = w := by
  have h1 : (1048576 : Int) < (k.size : Int) := by omega
  go_enter Try.func7, Try.ntmps7
  go_wp2
  go_ret
  exact ⟨rfl, rfl⟩

theorem law_long (n m : Int) (k : ByteArray) (h : 1048576 < k.size) (w : World) :
    Calls Try.prog 3 #[.int .i64 n, .int .i64 m, .string k] w fun x w' => x = .returned (.bool true) ∧ Grown w w' := by
  go_enter Try.func3, Try.ntmps3
  go_wp2_with (go_at_call 7; refine (bytes_no _ _ _ h _).mono ?_; rintro e w' ⟨rfl, rfl⟩)
  go_ret
  exact ⟨rfl, Grown.refl _⟩

theorem law_short (n m rn rm : Int) (k : ByteArray) (h : k.size ≤ 1048576) (hn : lim n 10000 = rn) (hm : lim m 10000 = rm)
    (hA : 0 < n → rn = n) (hB : n < 0 → rn = 0) (hC : ¬ n = 0 → ¬ m = 0 → n ≤ m → rn ≤ rm) (w : World) :
    Calls Try.prog 3 #[.int .i64 n, .int .i64 m, .string k] w fun x w' => x = .returned (.bool true) ∧ Grown w w' := by
  have h1 : ¬ ((1048576 : Int) < (k.size : Int)) := by omega
  have e0 : lim 0 10000 = 10000 := by decide
  have e1 : lim 10000 10000 = 10000 := by decide
  have e2 : lim (-1) 10000 = 0 := by decide
  have HA : Hid (0 < n → rn = n) := hA
  have HB : Hid (n < 0 → rn = 0) := hB
  have HC : Hid (¬ n = 0 → ¬ m = 0 → n ≤ m → rn ≤ rm) := hC
  clear hA hB hC
  go_enter Try.func3, Try.ntmps3
  go_wp2_with (first | (go_at_call 7; refine (bytes_yes _ _ _ h _).mono ?_; rintro e w' ⟨rfl, rfl⟩) | (go_at_call 8; refine (zz_any _ _ _ _ _ _ _ _ _).mono ?_; rintro e w1 ⟨rfl, hg⟩))
  all_goals have hA := HA.out
  all_goals have hB := HB.out
  all_goals have hC := HC.out
  all_goals first
    | (exfalso; omega)
    | (exfalso; simp only [bne_iff_ne, ne_eq] at *; omega)
    | (go_ret; exact ⟨rfl, by repeat (first | exact Grown.refl _ | assumption | refine gtrans ?_ (by assumption))⟩)

/-- The plain law on 'lim': no Go in sight. -/
theorem lim_law (n m : Int) : (0 < n → lim n 10000 = n) ∧ (n < 0 → lim n 10000 = 0) ∧ (¬ n = 0 → ¬ m = 0 → n ≤ m → lim n 10000 ≤ lim m 10000) := by
  unfold lim
  refine ⟨fun h => ?_, fun h => ?_, fun h1 h2 h3 => ?_⟩ <;> (repeat' split) <;> omega

theorem walk_any (n m : Int) (k : ByteArray) (w : World) :
    Calls Try.prog 3 #[.int .i64 n, .int .i64 m, .string k] w fun x w' => x = .returned (.bool true) ∧ Grown w w' := by
  by_cases h : 1048576 < k.size
  · exact law_long n m k h w
  · obtain ⟨hA, hB, hC⟩ := lim_law n m
    exact law_short n m _ _ k (by omega) rfl rfl hA hB hC w
end Go.Proofs.Qxb6614974a.fnNestingDefaultAndOrder
