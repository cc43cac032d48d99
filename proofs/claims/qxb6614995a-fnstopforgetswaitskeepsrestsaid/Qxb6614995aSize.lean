import Derived.Test.Qxb6614995aFrames
namespace Go.Proofs.Qxb6614995a.stop
open Go.ChangeShapes Go.WideShapes Go.ChangeAt Go.RowKit

/-- Every length is at most 1<<20. -/
def Sized (na n m : Nat) (L : Nat → Nat) : Prop := na ≤ 1048576 ∧ n ≤ 1048576 ∧ m ≤ 1048576 ∧ ∀ r, r < n → L r ≤ 1048576

/-- The frames' lengths, summed up to the k-th. -/
def sumTo (L : Nat → Nat) : Nat → Nat
  | 0 => 0
  | k + 1 => sumTo L k + L k
theorem sumTo_le (L : Nat → Nat) (k n : Nat) (h : k ≤ n) : sumTo L k ≤ sumTo L n := by
  induction n with
  | zero => obtain rfl : k = 0 := by omega
            exact Nat.le_refl _
  | succ m ih =>
    by_cases e : k = m + 1
    · subst e; exact Nat.le_refl _
    · have := ih (by omega)
      simp only [sumTo]; omega
theorem le_sumTo (L : Nat → Nat) (k n : Nat) (h : k < n) : sumTo L k + L k ≤ sumTo L n := sumTo_le L (k + 1) n h

theorem sized_of (na n m : Nat) (L : Nat → Nat) (h : na + n + sumTo L n + m ≤ 1048576) : Sized na n m L :=
  ⟨by omega, by omega, by omega, fun r hr => by have := le_sumTo L r n hr; omega⟩

set_option maxHeartbeats 1000000 in
theorem size_yes (rec : Bool) (ls pw wi ak ns rt dv at' : Int) (A : Option Addr) (na ca : Nat) (E : Option Addr) (n c : Nat) (B : Option Addr) (m d : Nat) (hna : na ≤ maxLen) (hn : n ≤ maxLen) (hm : m ≤ maxLen)
    (F : Nat → Option Addr) (L C : Nat → Nat) (hL : ∀ r, r < n → L r ≤ maxLen) (z : Nat → Nat → Int) (w : World) (hF : Frames w E n F L C z) (hs : na + n + sumTo L n + m ≤ 1048576) :
    Calls Try.prog 14 #[.bool rec, .int .u32 ls, .slice A na ca, .slice E n c, .int .i64 pw, .int .i64 wi, .int .i64 ak, .int .u32 ns, .slice B m d, .int .i64 rt, .int .i64 dv, .int .i64 at'] w fun e w' => e = .returned (.bool true) ∧ w = w' := by
  unfold maxLen at hna hn hm hL
  have h1 : na ≤ 1048576 := by omega
  have h2 : n ≤ 1048576 := by omega
  have h3 : na + n ≤ 1048576 := by omega
  have h6 : m ≤ 1048576 := by omega
  have HM : Hid (∀ k, k < n → sumTo L k + L k ≤ sumTo L n) := fun k hk => le_sumTo L k n hk
  go_enter Try.func14, Try.ntmps14
  go_wp2
  go_loop [25, 26] (fun t i => ∃ (k : Nat), k ≤ n ∧ i = .int .i64 k ∧ t = .int .i64 ((na : Int) + (n : Int) + (sumTo L k : Nat))) (fun _ i => n - (intOf i).toNat)
  case atStart => exact ⟨0, Nat.zero_le _, rfl, by simp [sumTo]⟩
  case round =>
    obtain ⟨k, hk, rfl, rfl⟩ := hrel
    by_cases hlt : k < n
    · rcases E with _ | a
      · have := hF.nil rfl
        omega
      obtain ⟨b, off, rfl, hb, hc⟩ := hF.plain (by omega)
      have g1 := hc k hlt
      have hLk := hL k hlt
      have hsum := HM.out k hlt
      have hi : (k : Int) < (n : Int) := by omega
      clear hc hF hL
      go_wp2
      go_round
      case rel => exact ⟨k + 1, by omega, by go_num, by simp only [sumTo]; go_num⟩
      case measure => simp [intOf]; omega
    · obtain rfl : k = n := by omega
      clear hF hL
      go_wp2
      go_ret
      exact ⟨rfl, rfl⟩

set_option maxHeartbeats 1000000 in
theorem size_no (rec : Bool) (ls pw wi ak ns rt dv at' : Int) (A : Option Addr) (na ca : Nat) (E : Option Addr) (n c : Nat) (B : Option Addr) (m d : Nat) (hna : na ≤ maxLen) (hn : n ≤ maxLen) (hm : m ≤ maxLen)
    (F : Nat → Option Addr) (L C : Nat → Nat) (hL : ∀ r, r < n → L r ≤ maxLen) (z : Nat → Nat → Int) (w : World) (hF : Frames w E n F L C z) (hs : 1048576 < na + n + sumTo L n + m) :
    Calls Try.prog 14 #[.bool rec, .int .u32 ls, .slice A na ca, .slice E n c, .int .i64 pw, .int .i64 wi, .int .i64 ak, .int .u32 ns, .slice B m d, .int .i64 rt, .int .i64 dv, .int .i64 at'] w fun e w' => e = .returned (.bool false) ∧ w = w' := by
  unfold maxLen at hna hn hm hL
  by_cases h1 : na ≤ 1048576
  rotate_left
  · have h1' : (1048576 : Int) < (na : Int) := by omega
    clear hF
    go_enter Try.func14, Try.ntmps14
    go_wp2
    go_ret
    exact ⟨rfl, rfl⟩
  by_cases h2 : n ≤ 1048576
  rotate_left
  · have h2' : (1048576 : Int) < (n : Int) := by omega
    clear hF
    go_enter Try.func14, Try.ntmps14
    go_wp2
    go_ret
    exact ⟨rfl, rfl⟩
  by_cases h3 : na + n ≤ 1048576
  rotate_left
  · have h3' : (1048576 : Int) < (na : Int) + (n : Int) := by omega
    clear hF
    go_enter Try.func14, Try.ntmps14
    go_wp2
    go_ret
    exact ⟨rfl, rfl⟩
  have HS : Hid (1048576 < na + n + sumTo L n + m) := hs
  clear hs
  go_enter Try.func14, Try.ntmps14
  go_wp2
  go_loop [25, 26] (fun t i => ∃ (k : Nat), k ≤ n ∧ i = .int .i64 k ∧ t = .int .i64 ((na : Int) + (n : Int) + (sumTo L k : Nat)) ∧ na + n + sumTo L k ≤ 1048576) (fun _ i => n - (intOf i).toNat)
  case atStart => exact ⟨0, Nat.zero_le _, rfl, by simp [sumTo], by simp [sumTo]; omega⟩
  case round =>
    obtain ⟨k, hk, rfl, rfl, hq⟩ := hrel
    by_cases hlt : k < n
    · rcases E with _ | a
      · have := hF.nil rfl
        omega
      obtain ⟨b, off, rfl, hb, hc⟩ := hF.plain (by omega)
      have g1 := hc k hlt
      have hLk := hL k hlt
      have hi : (k : Int) < (n : Int) := by omega
      clear hc hF hL
      by_cases h4 : L k ≤ 1048576
      · by_cases h5 : na + n + (sumTo L k + L k) ≤ 1048576
        · go_wp2
          go_round
          case rel => exact ⟨k + 1, by omega, by go_num, by simp only [sumTo]; go_num, h5⟩
          case measure => simp [intOf]; omega
        · have h5' : (1048576 : Int) < (na : Int) + (n : Int) + (sumTo L k : Nat) + (L k : Int) := by omega
          go_wp2
          go_ret
          exact ⟨rfl, rfl⟩
      · have h4' : (1048576 : Int) < (L k : Int) := by omega
        go_wp2
        go_ret
        exact ⟨rfl, rfl⟩
    · obtain rfl : k = n := by omega
      clear hF hL
      by_cases h6 : m ≤ 1048576
      · have h7' : (1048576 : Int) < (na : Int) + (k : Int) + (sumTo L k : Nat) + (m : Int) := by have := HS.out; omega
        go_wp2
        go_ret
        exact ⟨rfl, rfl⟩
      · have h6' : (1048576 : Int) < (m : Int) := by omega
        go_wp2
        go_ret
        exact ⟨rfl, rfl⟩
end Go.Proofs.Qxb6614995a.stop
