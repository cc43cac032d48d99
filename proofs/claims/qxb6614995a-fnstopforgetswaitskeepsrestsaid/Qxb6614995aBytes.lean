import Derived.Test.Qxb6614995aRows
import Derived.WalkKit
import Derived.WalkSpells
import Derived.ProofKit
import Derived.Deep.QuietTactic
import Derived.BigQuiet
import Derived.Deep.OwnRows
import Derived.Deep.LoopGhost
namespace Go.Proofs.Qxb6614995a.stop
open Go.ChangeShapes Go.WideShapes Go.ChangeAt Go.RowKit

theorem info5 : (Try.prog.info? 5).map (fun i => (i.zero, i.size, i.bytes)) = some (some (.int .u8 0), 1, 1) := by kernel_rfl
theorem info38 : (Try.prog.info? 38).map (fun i => (i.zero, i.size, i.bytes)) = some (some (.slice none 0 0), 1, 24) := by kernel_rfl

/-- A slice value's cells, as numbers of a kind: what a walk that reads it wants. -/
def Row (k : IntKind) (w : World) (A : Option Addr) (L : Nat) (z : Nat → Int) : Prop :=
  (A = none → L = 0) ∧ ∀ a, A = some a → ∀ c, c < L → w.cell? (a.add c) = some (.int k (z c))

theorem Row.drewN {k : IntKind} {w : World} {A : Option Addr} {L : Nat} {z : Nat → Int} (h : Row k w A L z) (n : Nat) : Row k (w.drewN n) A L z := h

/-- Where there is an element the address is plain. -/
theorem Row.plain {k : IntKind} {w : World} {a : Addr} {L : Nat} {z : Nat → Int} (h : Row k w (some a) L z) (hL : 0 < L) :
    ∃ b off, a = ⟨b, off, none⟩ ∧ ∀ c, c < L → w.cell? ⟨b, off + c, none⟩ = some (.int k (z c)) := by
  obtain ⟨b, off, spot⟩ := a
  have hc := h.2 _ rfl
  have hspot : spot = none := by simpa [Addr.add] using World.cell?_spot (hc 0 hL)
  subst hspot
  exact ⟨b, off, rfl, fun c hcl => by rw [← add_plain]; exact hc c hcl⟩

set_option maxHeartbeats 400000 in
theorem bytesEqual_plain (b off c b' off' c' L : Nat) (hL : L ≤ 1048576) (z : Nat → Int) (w : World)
    (h1 : ∀ j, j < L → w.cell? ⟨b, off + j, none⟩ = some (.int .u8 (z j))) (h2 : ∀ j, j < L → w.cell? ⟨b', off' + j, none⟩ = some (.int .u8 (z j))) :
    Calls Try.prog 37 #[.slice (some ⟨b, off, none⟩) L c, .slice (some ⟨b', off', none⟩) L c'] w fun e w' => e = .returned (.bool true) ∧ ∃ n, w' = w.drewN n := by
  have q38 : ∀ (w : World) (a : Option Addr) (n c n' c' : Nat), (binOp .eql 38 (.slice a n c) (.slice none n' c')).run Try.prog w = .ok (.bool a.isNone) w := fun w a n c n' c' => Lib.run_eql_slice_nil w _ _ a n c n' c' Try.underlying38
  go_enter Try.func37, Try.ntmps37
  go_wp2
  go_loopw [5] (fun i wr => ∃ k : Nat, k ≤ L ∧ i = .int .i64 k ∧ ∃ n, wr = w.drewN n) (fun i _ => L - (intOf i).toNat)
  case atStart => exact ⟨0, Nat.zero_le _, rfl, 0, rfl⟩
  case round =>
    obtain ⟨k, hk, rfl, n, rfl⟩ := hrel
    by_cases hlt : k < L
    · have g1 := h1 k hlt
      have g2 := h2 k hlt
      have hi : (k : Int) < (L : Int) := by omega
      clear h1 h2
      go_wp2
      go_quiet (fail)
      go_wp2
      go_roundw
      case rel => exact ⟨k + 1, by omega, by go_num, _, rfl⟩
      case measure => simp [intOf]; omega
    · clear h1 h2
      go_wp2
      go_ret
      exact ⟨rfl, _, rfl⟩

set_option maxHeartbeats 400000 in
theorem bytesEqual_empty (A A' : Option Addr) (c c' : Nat) (hA : A.isNone = A'.isNone) (w : World) :
    Calls Try.prog 37 #[.slice A 0 c, .slice A' 0 c'] w fun e w' => e = .returned (.bool true) ∧ ∃ n, w' = w.drewN n := by
  have q38 : ∀ (w : World) (a : Option Addr) (n c n' c' : Nat), (binOp .eql 38 (.slice a n c) (.slice none n' c')).run Try.prog w = .ok (.bool a.isNone) w := fun w a n c n' c' => Lib.run_eql_slice_nil w _ _ a n c n' c' Try.underlying38
  match A, A', hA with
  | none, none, _ =>
    go_enter Try.func37, Try.ntmps37
    go_wp2
    refine wp_loop_rounds 1 ?_
    rw [rounds_succ]
    go_wp2
    go_ret
    exact ⟨rfl, 0, rfl⟩
  | some a, some a', _ =>
    go_enter Try.func37, Try.ntmps37
    go_wp2
    refine wp_loop_rounds 1 ?_
    rw [rounds_succ]
    go_wp2
    go_ret
    exact ⟨rfl, 0, rfl⟩

/-- 'bytesEqual' of two slices of one content, both nil or neither: true; it only reads. -/
theorem bytesEqual_any (A A' : Option Addr) (L c c' : Nat) (hL : L ≤ 1048576) (hA : A.isNone = A'.isNone) (z : Nat → Int) (w : World) (h1 : Row .u8 w A L z) (h2 : Row .u8 w A' L z) :
    Calls Try.prog 37 #[.slice A L c, .slice A' L c'] w fun e w' => e = .returned (.bool true) ∧ ∃ n, w' = w.drewN n := by
  by_cases h0 : L = 0
  · subst h0
    exact bytesEqual_empty A A' c c' hA w
  · match A, A', hA, h1, h2 with
    | none, _, _, h1, _ => exact absurd (h1.1 rfl) h0
    | some a, some a', _, h1, h2 =>
      obtain ⟨b, off, rfl, g1⟩ := h1.plain (by omega)
      obtain ⟨b', off', rfl, g2⟩ := h2.plain (by omega)
      exact bytesEqual_plain b off c b' off' c' L hL z w g1 g2

theorem cloneBytes_nil (w : World) : Calls Try.prog 22 #[.slice none 0 0] w fun e w' => e = .returned (.slice none 0 0) ∧ w' = w := by
  have q38 : ∀ (w : World) (a : Option Addr) (n c n' c' : Nat), (binOp .eql 38 (.slice a n c) (.slice none n' c')).run Try.prog w = .ok (.bool a.isNone) w := fun w a n c n' c' => Lib.run_eql_slice_nil w _ _ a n c n' c' Try.underlying38
  go_enter Try.func22, Try.ntmps22
  go_wp2
  go_ret
  exact ⟨rfl, rfl⟩

set_option maxHeartbeats 400000 in
theorem cloneBytes_plain (b off c L : Nat) (hL : L ≤ 1048576) (z : Nat → Int) (w : World)
    (h1 : ∀ j, j < L → w.cell? ⟨b, off + j, none⟩ = some (.int .u8 (z j))) (hb : b < w.heap.size) :
    Calls Try.prog 22 #[.slice (some ⟨b, off, none⟩) L c] w fun e w' => e = .returned (.slice (some ⟨w.heap.size, 0, none⟩) L L) ∧ Below w.heap.size w w' ∧ w'.rowIs w.heap.size 5 L (fun j => .int .u8 (z j)) := by
  have q38 : ∀ (w : World) (a : Option Addr) (n c n' c' : Nat), (binOp .eql 38 (.slice a n c) (.slice none n' c')).run Try.prog w = .ok (.bool a.isNone) w := fun w a n c n' c' => Lib.run_eql_slice_nil w _ _ a n c n' c' Try.underlying38
  have hmk := run_make_row' (P := Try.prog) 38 5 (.int .u8 0) 1 Try.underlying38 info5 rfl .i64 .i64 L (by omega) (by omega)
  go_enter Try.func22, Try.ntmps22
  go_wp2
  go_loopw [4] (fun i wr => ∃ k : Nat, k ≤ L ∧ i = .int .i64 k ∧ Below w.heap.size w wr ∧ wr.rowIs w.heap.size 5 L (fun j => if j < k then .int .u8 (z j) else .int .u8 0)) (fun i _ => L - (intOf i).toNat)
  case atStart => exact ⟨0, Nat.zero_le _, rfl, (Below.refl _ _).alloc (Nat.le_refl _) _, (World.rowIs_made w (.int .u8 0) L 5).congr (fun i hi => by simp)⟩
  case round =>
    obtain ⟨k, hk, rfl, hbel, hrow⟩ := hrel
    by_cases hlt : k < L
    · have g1 := (hbel.cell (p := ⟨b, off + k, none⟩) hb).trans (h1 k hlt)
      have g2 := hrow.cell hlt
      have g3 := hrow.frozen k
      have hi : (k : Int) < (L : Int) := by omega
      have HB : Hid (Below w.heap.size w wr) := hbel
      have HR : Hid (wr.rowIs w.heap.size 5 L (fun j => if j < k then .int .u8 (z j) else .int .u8 0)) := hrow
      clear h1 hbel hrow
      go_wp2
      go_roundw
      case rel =>
        exact ⟨k + 1, by omega, by go_num, HB.out.setCell (Nat.le_refl _) _, (HR.out.set k _).congr (fun j hj => by
          by_cases e : j = k
          · subst e; simp
          · simp only [e, if_false]
            by_cases e2 : j < k
            · rw [if_pos e2, if_pos (by omega)]
            · rw [if_neg e2, if_neg (by omega)])⟩
      case measure => simp [intOf]; omega
    · have HB : Hid (Below w.heap.size w wr) := hbel
      have HR : Hid (wr.rowIs w.heap.size 5 L (fun j => if j < k then .int .u8 (z j) else .int .u8 0)) := hrow
      clear h1 hbel hrow
      go_wp2
      go_ret
      exact ⟨rfl, HB.out, HR.out.congr (fun j hj => by rw [if_pos (by omega)])⟩

theorem Row.later {k : IntKind} {w wx : World} {A : Option Addr} {L : Nat} {z : Nat → Int} (h : Row k w A L z) (hb : Below w.heap.size w wx) : Row k wx A L z :=
  ⟨h.1, fun a ha c hc => cell_later hb (h.2 a ha c hc)⟩

set_option maxHeartbeats 400000 in
theorem cloneBytes_empty (a : Addr) (c : Nat) (w : World) :
    Calls Try.prog 22 #[.slice (some a) 0 c] w fun e w' => e = .returned (.slice (some ⟨w.heap.size, 0, none⟩) 0 0) ∧ Below w.heap.size w w' ∧ w'.rowIs w.heap.size 5 0 (fun _ => .int .u8 0) := by
  have q38 : ∀ (w : World) (a : Option Addr) (n c n' c' : Nat), (binOp .eql 38 (.slice a n c) (.slice none n' c')).run Try.prog w = .ok (.bool a.isNone) w := fun w a n c n' c' => Lib.run_eql_slice_nil w _ _ a n c n' c' Try.underlying38
  have hmk : ∀ w, (Instr.makeSlice 38 (.int .i64 0) (.int .i64 0)).run Try.prog w = .ok (.slice (some ⟨w.heap.size, 0, none⟩) 0 0) (w.alloc (.cells (madeCells #[.int .u8 0] 0) 5)) := fun w => run_make_row' (P := Try.prog) 38 5 (.int .u8 0) 1 Try.underlying38 info5 rfl .i64 .i64 0 (by omega) (by omega) w
  go_enter Try.func22, Try.ntmps22
  go_wp2
  refine wp_loop_rounds 1 ?_
  rw [rounds_succ]
  go_wp2
  go_ret
  exact ⟨rfl, (Below.refl _ _).alloc (Nat.le_refl _) _, World.rowIs_made w (.int .u8 0) 0 5⟩

/-- v IS A CLONE of a slice of bytes: nil where that is nil; else a row of its own from block lo on, of the same content. -/
def Cl (w : World) (lo : Nat) (v : Value) (A : Option Addr) (L : Nat) (z : Nat → Int) : Prop :=
  ∃ A' c', v = .slice A' L c' ∧ A'.isNone = A.isNone ∧ (A' = none → L = 0) ∧ ∀ a', A' = some a' → ∃ g, a' = ⟨g, 0, none⟩ ∧ lo ≤ g ∧ w.rowIs g 5 L (fun j => .int .u8 (z j))

theorem Cl.mono {w : World} {lo lo' : Nat} {v : Value} {A : Option Addr} {L : Nat} {z : Nat → Int} (h : Cl w lo v A L z) (hl : lo' ≤ lo) : Cl w lo' v A L z := by
  obtain ⟨A', c', e1, e2, e3, e4⟩ := h
  refine ⟨A', c', e1, e2, e3, fun a' ha => ?_⟩
  obtain ⟨g, h1, h2, h3⟩ := e4 a' ha
  exact ⟨g, h1, by omega, h3⟩

/-- It stays a clone where the blocks from lo on stay. -/
theorem Cl.kept {w w' : World} {lo : Nat} {v : Value} {A : Option Addr} {L : Nat} {z : Nat → Int} (h : Cl w lo v A L z) (hk : ∀ g, lo ≤ g → g < w.heap.size → w'.heap[g]? = w.heap[g]?) : Cl w' lo v A L z := by
  obtain ⟨A', c', e1, e2, e3, e4⟩ := h
  refine ⟨A', c', e1, e2, e3, fun a' ha => ?_⟩
  obtain ⟨g, h1, h2, h3⟩ := e4 a' ha
  exact ⟨g, h1, h2, h3.of_block (hk g h2 h3.lt)⟩

theorem Cl.row {w : World} {lo : Nat} {v : Value} {A : Option Addr} {L : Nat} {z : Nat → Int} (h : Cl w lo v A L z) : ∃ A' c', v = .slice A' L c' ∧ A'.isNone = A.isNone ∧ Row .u8 w A' L z := by
  obtain ⟨A', c', e1, e2, e3, e4⟩ := h
  refine ⟨A', c', e1, e2, e3, fun a' ha c hc => ?_⟩
  obtain ⟨g, rfl, _, h3⟩ := e4 a' ha
  have := h3.cell hc
  rw [add_plain]
  simpa using this

theorem Row.block {k : IntKind} {w : World} {b off : Nat} {L : Nat} {z : Nat → Int} (h : Row k w (some ⟨b, off, none⟩) L z) (hL : 0 < L) : b < w.heap.size :=
  World.block_lt_of_cell? w ((⟨b, off, none⟩ : Addr).add 0) (h.2 _ rfl 0 hL)

/-- 'cloneBytes', whatever slice. -/
theorem cloneBytes_any (A : Option Addr) (L c : Nat) (hL : L ≤ 1048576) (hc : A = none → c = 0) (z : Nat → Int) (w : World) (h1 : Row .u8 w A L z) :
    Calls Try.prog 22 #[.slice A L c] w fun e w' => ∃ v, e = .returned v ∧ Cl w' w.heap.size v A L z ∧ Below w.heap.size w w' := by
  match A, hc, h1 with
  | none, hc, h1 =>
    obtain rfl := h1.1 rfl
    obtain rfl := hc rfl
    refine (cloneBytes_nil w).mono ?_
    rintro e w' ⟨rfl, rfl⟩
    exact ⟨_, rfl, ⟨none, 0, rfl, rfl, fun _ => rfl, fun _ h => by cases h⟩, Below.refl _ _⟩
  | some a, _, h1 =>
    by_cases h0 : L = 0
    · subst h0
      refine (cloneBytes_empty a c w).mono ?_
      rintro e w' ⟨rfl, hb, hr⟩
      exact ⟨_, rfl, ⟨some ⟨w.heap.size, 0, none⟩, 0, rfl, rfl, (fun h => by cases h), fun a' h => by cases h; exact ⟨_, rfl, Nat.le_refl _, hr.congr (fun i hi => by omega)⟩⟩, hb⟩
    · obtain ⟨b, off, rfl, g1⟩ := h1.plain (by omega)
      refine (cloneBytes_plain b off c L hL z w g1 (h1.block (by omega))).mono ?_
      rintro e w' ⟨rfl, hb, hr⟩
      exact ⟨_, rfl, ⟨some ⟨w.heap.size, 0, none⟩, L, rfl, rfl, (fun h => by cases h), fun a' h => by cases h; exact ⟨_, rfl, Nat.le_refl _, hr⟩⟩, hb⟩
end Go.Proofs.Qxb6614995a.stop
