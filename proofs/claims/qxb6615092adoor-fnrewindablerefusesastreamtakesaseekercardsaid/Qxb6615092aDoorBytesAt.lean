import Derived.Test.Qxb6615092aDoorAll
import Derived.Test.Qxb6615092aDoorRewind
namespace Go.Proofs.Qxb6615092aDoor.rew
open Go.ChangeShapes Go.WideShapes Go.ChangeAt Go.RowKit

theorem comp39 : (Tryd.prog.info? 39).map (·.comparable) = some true := by kernel_rfl
theorem size67 : (Tryd.prog.info? 67).map (·.size) = some 3 := by kernel_rfl
theorem seeker_same (a : Addr) (w : World) : (binOp .eql 36 (.iface 39 (.pointer (some a))) (.iface 39 (.pointer (some a)))).run Tryd.prog w = .ok (.bool true) w := by
  obtain ⟨i, hi, hc⟩ := Option.map_eq_some_iff.1 comp39
  obtain ⟨j, hj, _⟩ := Option.map_eq_some_iff.1 size67
  exact run_eql_iface_ptr_same w a Tryd.underlying36 Tryd.underlying39 hi hc hj
theorem method_seek (a : Addr) (w : World) : (method 268 39 (.pointer (some a)) "Seek").run Tryd.prog w = .ok (16, .pointer (some a)) w := by kernel_rfl

/-- The bytes that the reader is laid over, as the caller sees them. -/
def Over (w : World) (A : Option Addr) (n : Nat) : Prop := n = 0 ∨ ∃ b off, A = some ⟨b, off, none⟩ ∧ ∃ z : Nat → Int, ∀ j, j < n → w.cell? ⟨b, off + j, none⟩ = some (.int .u8 (z j))

theorem Over.src {w w' : World} {A : Option Addr} {n R : Nat} (h : Over w A n) (hR : w.heap.size ≤ R) (hk : ∀ j, j < w.heap.size → w'.heap[j]? = w.heap[j]?) : SrcAt w' R A n := by
  rcases h with h | ⟨b, off, rfl, z, hz⟩
  · exact .inl h
  · by_cases h0 : n = 0
    · exact .inl h0
    · have hb : b < w.heap.size := World.block_lt_of_cell? w _ (hz 0 (by omega))
      exact .inr ⟨b, off, rfl, by omega, z, fun j hj => (World.cell?_of_block (w := w) (hk b hb)).trans (hz j hj)⟩

set_option maxHeartbeats 1000000 in
theorem bytesAt_any (A : Option Addr) (n c : Nat) (ae : Addr) (hn : n ≤ 1048576) (hnc : n ≤ c) (hcm : c ≤ maxLen) (w : World) (hsrc : Over w A n) (hev : w.cell? ⟨0, 0, none⟩ = some (.iface 73 (.pointer (some ae)))) :
    Calls Tryd.prog 7 #[.slice A n c, .int .i64 0] w fun e w' => ∃ v1 v2, e = .returned (.tuple #[.bool true, .bool true, v1, v2]) ∧ Below w.heap.size w w' := by
  have HS : Hid (Over w A n) := hsrc
  have HE : Hid (w.cell? ⟨0, 0, none⟩ = some (.iface 73 (.pointer (some ae)))) := hev
  have h0 : 0 < w.heap.size := World.block_lt_of_cell? w _ hev
  have hq := seeker_same
  have hms := method_seek
  clear hsrc hev
  go_enter Tryd.func7, Tryd.ntmps7
  go_wp2_with fail
  refine (newReader_any A n c w).mono ?_
  rintro e w1 ⟨rfl, hb1, hr1⟩
  have HB1 : Hid (Below w.heap.size w w1) := hb1
  have HR1 : Hid (Rd w1 w.heap.size A n c 0 (-1)) := hr1
  clear hb1 hr1
  go_wp2_with fail
  refine (seek_start w.heap.size A n c 0 (-1) 0 (by omega) w1 HR1.out).mono ?_
  rintro e w2 ⟨rfl, hb2, hr2⟩
  have HB2 : Hid (Below w.heap.size w w2) := But.below HB1.out hb2 (Nat.le_refl _) HB1.out.size
  have HR2 : Hid (Rd w2 w.heap.size A n c 0 (-1)) := hr2
  clear hb2 hr2
  go_wp2_with fail
  refine (rewindable_reader w.heap.size w2).mono ?_
  rintro e w3 ⟨rfl, rfl⟩
  go_wp2_with fail
  refine (seek_current w.heap.size A n c 0 (-1) (by omega) (by omega) w2 HR2.out).mono ?_
  rintro e w4 ⟨rfl, hb4, hr4⟩
  have HB4 : Hid (Below w.heap.size w w4) := But.below HB2.out hb4 (Nat.le_refl _) HB2.out.size
  have HR4 : Hid (Rd w4 w.heap.size A n c ((0 : Nat) : Int) (-1)) := hr4
  clear hb4 hr4
  go_wp2_with fail
  refine (readAll_any w.heap.size A n c 0 (-1) ae hn hnc hcm (Nat.zero_le _) w4 HR4.out (HS.out.src (Nat.le_refl _) HB4.out.block) ((HB4.out.cell (p := ⟨0, 0, none⟩) h0).trans HE.out) (by omega)).mono ?_
  rintro e w5 ⟨v1, k5, p5, rfl, hb5, hr5⟩
  have HB5 : Hid (Below w.heap.size w w5) := But.below HB4.out hb5 (Nat.le_refl _) HB4.out.size
  have HR5 : Hid (Rd w5 w.heap.size A n c k5 p5) := hr5
  clear hb5 hr5
  go_wp2_with fail
  refine (seek_start w.heap.size A n c k5 p5 0 (by omega) w5 HR5.out).mono ?_
  rintro e w6 ⟨rfl, hb6, hr6⟩
  have HB6 : Hid (Below w.heap.size w w6) := But.below HB5.out hb6 (Nat.le_refl _) HB5.out.size
  have HR6 : Hid (Rd w6 w.heap.size A n c ((0 : Nat) : Int) (-1)) := hr6
  clear hb6 hr6
  go_wp2_with fail
  refine (readAll_any w.heap.size A n c 0 (-1) ae hn hnc hcm (Nat.zero_le _) w6 HR6.out (HS.out.src (Nat.le_refl _) HB6.out.block) ((HB6.out.cell (p := ⟨0, 0, none⟩) h0).trans HE.out) (by omega)).mono ?_
  rintro e w7 ⟨v2, k7, p7, rfl, hb7, hr7⟩
  have HB7 : Hid (Below w.heap.size w w7) := But.below HB6.out hb7 (Nat.le_refl _) HB6.out.size
  clear hb7 hr7
  go_wp2
  exact bodyPost_ret (v := .tuple #[.bool true, .bool true, v1, v2]) (by simp [results, Tryd.results7, go_sem]) rfl ⟨v1, v2, rfl, HB7.out⟩
end Go.Proofs.Qxb6615092aDoor.rew
