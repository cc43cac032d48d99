import Derived.Test.Qxb6614995aBytes
namespace Go.Proofs.Qxb6614995a.stop
open Go.ChangeShapes Go.WideShapes Go.ChangeAt Go.RowKit

/-- The frames of a slice of slices, by their index: what a walk that reads them wants. -/
structure Frames (w : World) (A0 : Option Addr) (n : Nat) (A : Nat → Option Addr) (L C : Nat → Nat) (z : Nat → Nat → Int) : Prop where
  nil : A0 = none → n = 0
  cell : ∀ a, A0 = some a → ∀ r, r < n → w.cell? (a.add r) = some (.slice (A r) (L r) (C r))
  cap : ∀ r, r < n → A r = none → C r = 0
  row : ∀ r, r < n → Row .u8 w (A r) (L r) (z r)

theorem Frames.later {w wx : World} {A0 : Option Addr} {n : Nat} {A : Nat → Option Addr} {L C : Nat → Nat} {z : Nat → Nat → Int} (h : Frames w A0 n A L C z) (hb : Below w.heap.size w wx) : Frames wx A0 n A L C z :=
  ⟨h.nil, fun a ha r hr => cell_later hb (h.cell a ha r hr), h.cap, fun r hr => (h.row r hr).later hb⟩

theorem Frames.plain {w : World} {a : Addr} {n : Nat} {A : Nat → Option Addr} {L C : Nat → Nat} {z : Nat → Nat → Int} (h : Frames w (some a) n A L C z) (hn : 0 < n) :
    ∃ b off, a = ⟨b, off, none⟩ ∧ b < w.heap.size ∧ ∀ r, r < n → w.cell? ⟨b, off + r, none⟩ = some (.slice (A r) (L r) (C r)) := by
  obtain ⟨b, off, spot⟩ := a
  have hc := h.cell _ rfl
  have hspot : spot = none := by simpa [Addr.add] using World.cell?_spot (hc 0 hn)
  subst hspot
  exact ⟨b, off, rfl, World.block_lt_of_cell? w _ (hc 0 hn), fun r hr => by rw [← add_plain]; exact hc r hr⟩

/-- A family of clones in one row. -/
structure Clones (w : World) (N : Nat) (n : Nat) (V : Nat → Value) (A : Nat → Option Addr) (L : Nat → Nat) (z : Nat → Nat → Int) : Prop where
  row : w.rowIs N 38 n V
  each : ∀ r, r < n → Cl w (N + 1) (V r) (A r) (L r) (z r)

theorem Clones.kept {w w' : World} {N n : Nat} {V : Nat → Value} {A : Nat → Option Addr} {L : Nat → Nat} {z : Nat → Nat → Int} (h : Clones w N n V A L z) (hk : ∀ g, N ≤ g → g < w.heap.size → w'.heap[g]? = w.heap[g]?) : Clones w' N n V A L z :=
  ⟨h.row.of_block (hk N (Nat.le_refl _) h.row.lt), fun r hr => (h.each r hr).kept (fun g h1 h2 => hk g (by omega) h2)⟩

theorem cloneFrames_nil (w : World) : Calls Try.prog 15 #[.slice none 0 0] w fun e w' => e = .returned (.slice none 0 0) ∧ w' = w := by
  have q35 : ∀ (w : World) (a : Option Addr) (n c n' c' : Nat), (binOp .eql 35 (.slice a n c) (.slice none n' c')).run Try.prog w = .ok (.bool a.isNone) w := fun w a n c n' c' => Lib.run_eql_slice_nil w _ _ a n c n' c' Try.underlying35
  go_enter Try.func15, Try.ntmps15
  go_wp2
  go_ret
  exact ⟨rfl, rfl⟩

/-- What the loop of 'cloneFrames' holds at its k-th head. -/
structure Mid (w wr : World) (n k : Nat) (V : Nat → Value) (A : Nat → Option Addr) (L : Nat → Nat) (z : Nat → Nat → Int) : Prop where
  below : Below w.heap.size w wr
  row : wr.rowIs w.heap.size 38 n (fun j => if j < k then V j else .slice none 0 0)
  each : ∀ r, r < k → Cl wr (w.heap.size + 1) (V r) (A r) (L r) (z r)

theorem Mid.start (w : World) (n : Nat) (A : Nat → Option Addr) (L : Nat → Nat) (z : Nat → Nat → Int) : Mid w (w.alloc (.cells (madeCells #[.slice none 0 0] n) 38)) n 0 (fun _ => .slice none 0 0) A L z :=
  ⟨(Below.refl _ _).alloc (Nat.le_refl _) _, (World.rowIs_made w (.slice none 0 0) n 38).congr (fun i hi => by simp), fun r hr => by omega⟩

theorem Mid.step {w wr w1 : World} {n k : Nat} {V : Nat → Value} {A : Nat → Option Addr} {L : Nat → Nat} {z : Nat → Nat → Int} {v : Value} (h : Mid w wr n k V A L z)
    (hb : Below wr.heap.size wr w1) (hv : Cl w1 wr.heap.size v (A k) (L k) (z k)) :
    Mid w (w1.setCell ⟨w.heap.size, k, none⟩ v) n (k + 1) (fun j => if j = k then v else V j) A L z := by
  have hlt := h.row.lt
  refine ⟨(h.below.trans (hb.mono (by omega))).setCell (Nat.le_refl _) _, ?_, fun r hr => ?_⟩
  · have h1 : w1.rowIs w.heap.size 38 n (fun j => if j < k then V j else .slice none 0 0) := h.row.of_block (hb.block _ hlt)
    refine (h1.set k v).congr (fun j hj => ?_)
    by_cases e : j = k
    · subst e; simp
    · by_cases e2 : j < k
      · rw [if_neg e, if_pos e2, if_pos (by omega), if_neg e]
      · rw [if_neg e, if_neg e2, if_neg (by omega)]
  · by_cases e : r = k
    · subst e
      simp only [if_true]
      exact (hv.mono (by omega)).kept (fun g h1 h2 => Below.heap_setCell _ _ _ _ (by simp; omega))
    · simp only [e, if_false]
      exact ((h.each r (by omega)).kept (fun g h1 h2 => hb.block g h2)).kept (fun g h1 h2 => Below.heap_setCell _ _ _ _ (by simp; omega))

set_option maxHeartbeats 400000 in
theorem cloneFrames_plain (b off c n : Nat) (hn : n ≤ 1048576) (A : Nat → Option Addr) (L C : Nat → Nat) (z : Nat → Nat → Int) (w : World) (hF : Frames w (some ⟨b, off, none⟩) n A L C z) (hL : ∀ r, r < n → L r ≤ 1048576)
    (h1 : ∀ r, r < n → w.cell? ⟨b, off + r, none⟩ = some (.slice (A r) (L r) (C r))) (hb : b < w.heap.size) :
    Calls Try.prog 15 #[.slice (some ⟨b, off, none⟩) n c] w fun e w' => ∃ V, e = .returned (.slice (some ⟨w.heap.size, 0, none⟩) n n) ∧ Below w.heap.size w w' ∧ Clones w' w.heap.size n V A L z := by
  have q35 : ∀ (w : World) (a : Option Addr) (n c n' c' : Nat), (binOp .eql 35 (.slice a n c) (.slice none n' c')).run Try.prog w = .ok (.bool a.isNone) w := fun w a n c n' c' => Lib.run_eql_slice_nil w _ _ a n c n' c' Try.underlying35
  have hmk := run_make_row' (P := Try.prog) 35 38 (.slice none 0 0) 24 Try.underlying35 info38 rfl .i64 .i64 n (by omega) (by omega)
  go_enter Try.func15, Try.ntmps15
  go_wp2
  go_loopw [4] (fun i wr => ∃ k : Nat, k ≤ n ∧ i = .int .i64 k ∧ ∃ V, Mid w wr n k V A L z) (fun i _ => n - (intOf i).toNat)
  case atStart => exact ⟨0, Nat.zero_le _, rfl, _, Mid.start w n A L z⟩
  case round =>
    obtain ⟨k, hk, rfl, V, hmid⟩ := hrel
    by_cases hlt : k < n
    · have g1 := (hmid.below.cell (p := ⟨b, off + k, none⟩) hb).trans (h1 k hlt)
      have hrow := (hF.row k hlt).later hmid.below
      have hcap := hF.cap k hlt
      have hLk := hL k hlt
      have hi : (k : Int) < (n : Int) := by omega
      have HR : Hid (Row .u8 wr (A k) (L k) (z k)) := hrow
      have HC : Hid (A k = none → C k = 0) := hcap
      have HM : Hid (Mid w wr n k V A L z) := hmid
      have hlt2 := hmid.row.lt
      clear h1 hF hL hrow hcap hmid
      go_wp2_with fail
      refine (cloneBytes_any (A k) (L k) (C k) hLk HC.out (z k) _ HR.out).mono ?_
      rintro e w1 ⟨v, rfl, ⟨A', c', rfl, hrest⟩, hbel⟩
      have h1 : w1.rowIs w.heap.size 38 n (fun j => if j < k then V j else .slice none 0 0) := HM.out.row.of_block (hbel.block _ hlt2)
      have g2 := h1.cell hlt
      have g3 := h1.frozen k
      have HCl : Hid (Cl w1 wr.heap.size (.slice A' (L k) c') (A k) (L k) (z k)) := ⟨A', c', rfl, hrest⟩
      have HB : Hid (Below wr.heap.size wr w1) := hbel
      clear h1 hrest hbel
      go_wp2
      go_roundw
      case rel => exact ⟨k + 1, by omega, by go_num, _, HM.out.step HB.out HCl.out⟩
      case measure => simp [intOf]; omega
    · have HM : Hid (Mid w wr n k V A L z) := hmid
      clear h1 hF hL hmid
      go_wp2
      go_ret
      obtain rfl : k = n := by omega
      exact ⟨V, rfl, HM.out.below, HM.out.row.congr (fun j hj => by rw [if_pos hj]), HM.out.each⟩

set_option maxHeartbeats 400000 in
theorem cloneFrames_empty (a : Addr) (c : Nat) (w : World) :
    Calls Try.prog 15 #[.slice (some a) 0 c] w fun e w' => e = .returned (.slice (some ⟨w.heap.size, 0, none⟩) 0 0) ∧ Below w.heap.size w w' ∧ w'.rowIs w.heap.size 38 0 (fun _ => .slice none 0 0) := by
  have q35 : ∀ (w : World) (a : Option Addr) (n c n' c' : Nat), (binOp .eql 35 (.slice a n c) (.slice none n' c')).run Try.prog w = .ok (.bool a.isNone) w := fun w a n c n' c' => Lib.run_eql_slice_nil w _ _ a n c n' c' Try.underlying35
  have hmk : ∀ w, (Instr.makeSlice 35 (.int .i64 0) (.int .i64 0)).run Try.prog w = .ok (.slice (some ⟨w.heap.size, 0, none⟩) 0 0) (w.alloc (.cells (madeCells #[.slice none 0 0] 0) 38)) := fun w => run_make_row' (P := Try.prog) 35 38 (.slice none 0 0) 24 Try.underlying35 info38 rfl .i64 .i64 0 (by omega) (by omega) w
  go_enter Try.func15, Try.ntmps15
  go_wp2
  refine wp_loop_rounds 1 ?_
  rw [rounds_succ]
  go_wp2
  go_ret
  exact ⟨rfl, (Below.refl _ _).alloc (Nat.le_refl _) _, World.rowIs_made w (.slice none 0 0) 0 38⟩

/-- v IS A CLONE of a slice of frames. -/
def Cf (w : World) (lo : Nat) (v : Value) (A0 : Option Addr) (n : Nat) (A : Nat → Option Addr) (L : Nat → Nat) (z : Nat → Nat → Int) : Prop :=
  ∃ A0' c', v = .slice A0' n c' ∧ A0'.isNone = A0.isNone ∧ (A0' = none → n = 0) ∧ ∀ a', A0' = some a' → ∃ N V, a' = ⟨N, 0, none⟩ ∧ lo ≤ N ∧ Clones w N n V A L z

theorem Cf.kept {w w' : World} {lo : Nat} {v : Value} {A0 : Option Addr} {n : Nat} {A : Nat → Option Addr} {L : Nat → Nat} {z : Nat → Nat → Int} (h : Cf w lo v A0 n A L z) (hk : ∀ g, lo ≤ g → g < w.heap.size → w'.heap[g]? = w.heap[g]?) : Cf w' lo v A0 n A L z := by
  obtain ⟨A', c', e1, e2, e3, e4⟩ := h
  refine ⟨A', c', e1, e2, e3, fun a' ha => ?_⟩
  obtain ⟨N, V, h1, h2, h3⟩ := e4 a' ha
  exact ⟨N, V, h1, h2, h3.kept (fun g h4 h5 => hk g (by omega) h5)⟩

/-- 'cloneFrames', whatever slice. -/
theorem cloneFrames_any (A0 : Option Addr) (n c : Nat) (hn : n ≤ 1048576) (hc : A0 = none → c = 0) (A : Nat → Option Addr) (L C : Nat → Nat) (z : Nat → Nat → Int) (w : World) (hF : Frames w A0 n A L C z) (hL : ∀ r, r < n → L r ≤ 1048576) :
    Calls Try.prog 15 #[.slice A0 n c] w fun e w' => ∃ v, e = .returned v ∧ Cf w' w.heap.size v A0 n A L z ∧ Below w.heap.size w w' := by
  match A0, hc, hF with
  | none, hc, hF =>
    obtain rfl := hF.nil rfl
    obtain rfl := hc rfl
    refine (cloneFrames_nil w).mono ?_
    rintro e w' ⟨rfl, rfl⟩
    exact ⟨_, rfl, ⟨none, 0, rfl, rfl, fun _ => rfl, fun _ h => by cases h⟩, Below.refl _ _⟩
  | some a, _, hF =>
    by_cases h0 : n = 0
    · subst h0
      refine (cloneFrames_empty a c w).mono ?_
      rintro e w' ⟨rfl, hb, hr⟩
      exact ⟨_, rfl, ⟨some ⟨w.heap.size, 0, none⟩, 0, rfl, rfl, (fun h => by cases h), fun a' h => by cases h; exact ⟨_, _, rfl, Nat.le_refl _, hr, fun r hr => by omega⟩⟩, hb⟩
    · obtain ⟨b, off, rfl, hb, g1⟩ := hF.plain (by omega)
      refine (cloneFrames_plain b off c n hn A L C z w hF hL g1 hb).mono ?_
      rintro e w' ⟨V, rfl, hb, hr⟩
      exact ⟨_, rfl, ⟨some ⟨w.heap.size, 0, none⟩, n, rfl, rfl, (fun h => by cases h), fun a' h => by cases h; exact ⟨_, V, rfl, Nat.le_refl _, hr⟩⟩, hb⟩

set_option maxHeartbeats 400000 in
theorem framesEqual_empty (A A' : Option Addr) (c c' : Nat) (hA : A.isNone = A'.isNone) (w : World) :
    Calls Try.prog 20 #[.slice A 0 c, .slice A' 0 c'] w fun e w' => e = .returned (.bool true) ∧ ∃ n, w' = w.drewN n := by
  have q35 : ∀ (w : World) (a : Option Addr) (n c n' c' : Nat), (binOp .eql 35 (.slice a n c) (.slice none n' c')).run Try.prog w = .ok (.bool a.isNone) w := fun w a n c n' c' => Lib.run_eql_slice_nil w _ _ a n c n' c' Try.underlying35
  match A, A', hA with
  | none, none, _ =>
    go_enter Try.func20, Try.ntmps20
    go_wp2
    refine wp_loop_rounds 1 ?_
    rw [rounds_succ]
    go_wp2
    go_ret
    exact ⟨rfl, 0, rfl⟩
  | some a, some a', _ =>
    go_enter Try.func20, Try.ntmps20
    go_wp2
    refine wp_loop_rounds 1 ?_
    rw [rounds_succ]
    go_wp2
    go_ret
    exact ⟨rfl, 0, rfl⟩

set_option maxHeartbeats 400000 in
theorem framesEqual_plain (N b off c c' n : Nat) (hn : n ≤ 1048576) (V : Nat → Value) (A : Nat → Option Addr) (L C : Nat → Nat) (z : Nat → Nat → Int) (w : World) (hL : ∀ r, r < n → L r ≤ 1048576)
    (hV : ∀ r, r < n → w.cell? ⟨N, r, none⟩ = some (V r)) (hV2 : ∀ r, r < n → ∃ A' c', V r = .slice A' (L r) c' ∧ A'.isNone = (A r).isNone ∧ Row .u8 w A' (L r) (z r))
    (h1 : ∀ r, r < n → w.cell? ⟨b, off + r, none⟩ = some (.slice (A r) (L r) (C r))) (h2 : ∀ r, r < n → Row .u8 w (A r) (L r) (z r)) :
    Calls Try.prog 20 #[.slice (some ⟨N, 0, none⟩) n c, .slice (some ⟨b, off, none⟩) n c'] w fun e w' => e = .returned (.bool true) ∧ ∃ n, w' = w.drewN n := by
  have q35 : ∀ (w : World) (a : Option Addr) (n c n' c' : Nat), (binOp .eql 35 (.slice a n c) (.slice none n' c')).run Try.prog w = .ok (.bool a.isNone) w := fun w a n c n' c' => Lib.run_eql_slice_nil w _ _ a n c n' c' Try.underlying35
  go_enter Try.func20, Try.ntmps20
  go_wp2
  go_loopw [5] (fun i wr => ∃ k : Nat, k ≤ n ∧ i = .int .i64 k ∧ ∃ m, wr = w.drewN m) (fun i _ => n - (intOf i).toNat)
  case atStart => exact ⟨0, Nat.zero_le _, rfl, 0, rfl⟩
  case round =>
    obtain ⟨k, hk, rfl, m, hwr⟩ := hrel
    have hc : ∀ a, wr.cell? a = w.cell? a := fun a => by rw [hwr]; rfl
    have HW : Hid (wr = w.drewN m) := hwr
    by_cases hlt : k < n
    · obtain ⟨A', c2, hv, hA, hr'⟩ := hV2 k hlt
      have g1 := (hc _).trans (hV k hlt)
      rw [hv] at g1
      have g2 := (hc _).trans (h1 k hlt)
      have hLk := hL k hlt
      have hi : (k : Int) < (n : Int) := by omega
      have HR : Hid (Row .u8 wr (A k) (L k) (z k)) := by rw [hwr]; exact h2 k hlt
      have HR' : Hid (Row .u8 wr A' (L k) (z k)) := by rw [hwr]; exact hr'
      have HA : Hid (A'.isNone = (A k).isNone) := hA
      clear h1 h2 hV hV2 hL hv hr' hA hc hwr
      go_wp2
      go_quiet ((go_at_call 37; refine Calls.quiet_of (bytesEqual_any A' (A k) (L k) c2 (C k) hLk HA.out (z k) _ ?_ ?_); exact HR'.out; exact HR.out))
      go_wp2
      go_roundw
      case rel => exact ⟨k + 1, by omega, by go_num, m + nq, by rw [HW.out, World.drewN_drewN]⟩
      case measure => simp [intOf]; omega
    · clear h1 h2 hV hV2 hL hwr hc
      go_wp2
      go_ret
      exact ⟨rfl, _, HW.out⟩

/-- 'framesEqual' of a clone and what it was cloned from: true; it only reads. -/
theorem framesEqual_any (v : Value) (lo : Nat) (A0 : Option Addr) (n c : Nat) (hn : n ≤ 1048576) (A : Nat → Option Addr) (L C : Nat → Nat) (z : Nat → Nat → Int) (w : World) (hv : Cf w lo v A0 n A L z) (hF : Frames w A0 n A L C z) (hL : ∀ r, r < n → L r ≤ 1048576) :
    Calls Try.prog 20 #[v, .slice A0 n c] w fun e w' => e = .returned (.bool true) ∧ ∃ n, w' = w.drewN n := by
  obtain ⟨A0', c', rfl, e2, e3, e4⟩ := hv
  by_cases h0 : n = 0
  · subst h0
    exact framesEqual_empty A0' A0 c' c e2 w
  · match A0', A0, e2, e3, e4, hF with
    | none, _, _, e3, _, _ => exact absurd (e3 rfl) h0
    | some a', some a, _, _, e4, hF =>
      obtain ⟨N, V, rfl, hN, hcl⟩ := e4 a' rfl
      obtain ⟨b, off, rfl, hb, g1⟩ := hF.plain (by omega)
      exact framesEqual_plain N b off c' c n hn V A L C z w hL (fun r hr => hcl.row.cell hr) (fun r hr => (hcl.each r hr).row) g1 hF.row
end Go.Proofs.Qxb6614995a.stop
