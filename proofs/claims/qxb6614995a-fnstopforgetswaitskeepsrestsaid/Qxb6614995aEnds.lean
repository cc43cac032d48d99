import Derived.Test.Qxb6614995aLaw
namespace Go.Proofs.Qxb6614995a.stop
open Go.ChangeShapes Go.WideShapes Go.ChangeAt Go.RowKit

set_option maxRecDepth 100000 in
set_option maxHeartbeats 1000000 in
theorem law_unsized (rec : Bool) (ls pw wi ak ns rt dv at' : Int) (A : Option Addr) (na ca : Nat) (E : Option Addr) (n c : Nat) (B : Option Addr) (m d : Nat) (w : World)
    (hs : Calls Try.prog 14 #[.bool rec, .int .u32 ls, .slice A na ca, .slice E n c, .int .i64 pw, .int .i64 wi, .int .i64 ak, .int .u32 ns, .slice B m d, .int .i64 rt, .int .i64 dv, .int .i64 at'] w fun e w' => e = .returned (.bool false) ∧ w = w') :
    Calls Try.prog 4 #[.bool rec, .int .u32 ls, .slice A na ca, .slice E n c, .int .i64 pw, .int .i64 wi, .int .i64 ak, .int .u32 ns, .slice B m d, .int .i64 rt, .int .i64 dv, .int .i64 at'] w (LawEnd w) := by
  have HS : Hid (Calls Try.prog 14 #[.bool rec, .int .u32 ls, .slice A na ca, .slice E n c, .int .i64 pw, .int .i64 wi, .int .i64 ak, .int .u32 ns, .slice B m d, .int .i64 rt, .int .i64 dv, .int .i64 at'] w fun e w' => e = .returned (.bool false) ∧ w = w') := hs
  clear hs
  go_enter Try.func4, Try.ntmps4
  go_wp2_with (go_at_call 14; refine (HS.out).mono ?_; rintro e w' ⟨rfl, rfl⟩)
  go_ret
  exact ⟨rfl, Below.refl _ _⟩

set_option maxRecDepth 100000 in
set_option maxHeartbeats 1000000 in
theorem law_long (rec : Bool) (ls pw wi ak ns rt dv at' : Int) (A : Option Addr) (na ca : Nat) (E : Option Addr) (n c : Nat) (B : Option Addr) (m d : Nat) (w : World)
    (hs : Calls Try.prog 14 #[.bool rec, .int .u32 ls, .slice A na ca, .slice E n c, .int .i64 pw, .int .i64 wi, .int .i64 ak, .int .u32 ns, .slice B m d, .int .i64 rt, .int .i64 dv, .int .i64 at'] w fun e w' => e = .returned (.bool true) ∧ w = w')
    (h : 131072 < na ∨ (na ≤ 131072 ∧ 262144 < m) ∨ (na ≤ 131072 ∧ m ≤ 262144 ∧ 32768 < n)) :
    Calls Try.prog 4 #[.bool rec, .int .u32 ls, .slice A na ca, .slice E n c, .int .i64 pw, .int .i64 wi, .int .i64 ak, .int .u32 ns, .slice B m d, .int .i64 rt, .int .i64 dv, .int .i64 at'] w (LawEnd w) := by
  have HS : Hid (Calls Try.prog 14 #[.bool rec, .int .u32 ls, .slice A na ca, .slice E n c, .int .i64 pw, .int .i64 wi, .int .i64 ak, .int .u32 ns, .slice B m d, .int .i64 rt, .int .i64 dv, .int .i64 at'] w fun e w' => e = .returned (.bool true) ∧ w = w') := hs
  clear hs
  rcases h with h | ⟨h0, h⟩ | ⟨h0, h00, h⟩
  · have t1 : decide ((131072 : Int) < (na : Int)) = true := decide_eq_true (by omega)
    go_enter Try.func4, Try.ntmps4
    go_wp2_with (go_at_call 14; refine (HS.out).mono ?_; rintro e w' ⟨rfl, rfl⟩)
    go_ret
    exact ⟨rfl, Below.refl _ _⟩
  · have t1 : decide ((131072 : Int) < (na : Int)) = false := decide_eq_false (by omega)
    have t2 : decide ((262144 : Int) < (m : Int)) = true := decide_eq_true (by omega)
    go_enter Try.func4, Try.ntmps4
    go_wp2_with (go_at_call 14; refine (HS.out).mono ?_; rintro e w' ⟨rfl, rfl⟩)
    go_ret
    exact ⟨rfl, Below.refl _ _⟩
  · have t1 : decide ((131072 : Int) < (na : Int)) = false := decide_eq_false (by omega)
    have t2 : decide ((262144 : Int) < (m : Int)) = false := decide_eq_false (by omega)
    have t3 : decide ((32768 : Int) < (n : Int)) = true := decide_eq_true (by omega)
    go_enter Try.func4, Try.ntmps4
    go_wp2_with (go_at_call 14; refine (HS.out).mono ?_; rintro e w' ⟨rfl, rfl⟩)
    go_ret
    exact ⟨rfl, Below.refl _ _⟩

/-- THE LAW, whatever the input. -/
theorem law_any (rec : Bool) (ls pw wi ak ns rt dv at' : Int) (A : Option Addr) (na ca : Nat) (E : Option Addr) (n c : Nat) (B : Option Addr) (m d : Nat) (hna : na ≤ maxLen) (hn : n ≤ maxLen) (hm : m ≤ maxLen)
    (F : Nat → Option Addr) (L C : Nat → Nat) (hL : ∀ r, r < n → L r ≤ maxLen) (z : Nat → Nat → Int) (za zb : Nat → Int) (w : World) (hF : Frames w E n F L C z) (hR : Row .i64 w A na za) (hS : Row .u32 w B m zb)
    (hA0 : A = none → ca = 0) (hB0 : B = none → d = 0) (hE0 : E = none → c = 0) :
    Calls Try.prog 4 #[.bool rec, .int .u32 ls, .slice A na ca, .slice E n c, .int .i64 pw, .int .i64 wi, .int .i64 ak, .int .u32 ns, .slice B m d, .int .i64 rt, .int .i64 dv, .int .i64 at'] w (LawEnd w) := by
  by_cases hs : na + n + sumTo L n + m ≤ 1048576
  · have hy := size_yes rec ls pw wi ak ns rt dv at' A na ca E n c B m d hna hn hm F L C hL z w hF hs
    by_cases h : 131072 < na ∨ (na ≤ 131072 ∧ 262144 < m) ∨ (na ≤ 131072 ∧ m ≤ 262144 ∧ 32768 < n)
    · exact law_long rec ls pw wi ak ns rt dv at' A na ca E n c B m d w hy h
    · exact law_main rec ls pw wi ak ns rt dv at' A na ca E n c B m d F L C z za zb w hF hR hS hA0 hB0 hE0 (sized_of na n m L hs) hy (by omega) (by omega) (by omega)
  · exact law_unsized rec ls pw wi ak ns rt dv at' A na ca E n c B m d w (size_no rec ls pw wi ak ns rt dv at' A na ca E n c B m d hna hn hm F L C hL z w hF (by omega))
end Go.Proofs.Qxb6614995a.stop
