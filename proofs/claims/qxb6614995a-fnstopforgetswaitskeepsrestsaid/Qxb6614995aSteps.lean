import Derived.Test.Qxb6614995aNew
import Derived.Test.Qxb6614995aSize
import Derived.Laws.CopyOwn
namespace Go.Proofs.Qxb6614995a.stop
open Go.ChangeShapes Go.WideShapes Go.ChangeAt Go.RowKit

theorem below_draws {B : Nat} {a w : World} (h : Below B a w) (n : Nat) : Below B a (w.drewN n) := ⟨h.os, h.tape, h.output, h.size, h.block⟩

/-- 'ZZchannelStop' while another channel stands by. -/
theorem stop_step (w1 x : World) (b b' : Nat) (c0 c1 c2 c3 c4 c5 c6 c7 c8 c9 c10 c11 d0 d1 d2 d3 d4 d5 d6 d7 d8 d9 d10 d11 : Value) (hb : Below w1.heap.size w1 x) (h1 : Ch x b c0 c1 c2 c3 c4 c5 c6 c7 c8 c9 c10 c11) (h2 : Ch x b' d0 d1 d2 d3 d4 d5 d6 d7 d8 d9 d10 d11) (hle : w1.heap.size ≤ b) (hne : b' ≠ b) :
    Calls Try.prog 17 #[.pointer (some ⟨b, 0, none⟩)] x fun e x' => e = .returned (.tuple #[]) ∧ Below w1.heap.size w1 x' ∧ Ch x' b c0 c1 (.slice none 0 0) c3 c4 c5 c6 c7 (.slice none 0 0) c9 c10 c11 ∧ Ch x' b' d0 d1 d2 d3 d4 d5 d6 d7 d8 d9 d10 d11 := by
  refine (zzstop_any x b c0 c1 c2 c3 c4 c5 c6 c7 c8 c9 c10 c11 h1).mono ?_
  rintro e x' ⟨rfl, rfl⟩
  refine ⟨rfl, (hb.setCell hle _).setCell hle _, (h1.set2 _).set8 _, ?_⟩
  exact (h2.of_block (Below.heap_setCell _ _ _ _ hne)).of_block (Below.heap_setCell _ _ _ _ hne)

theorem waits_step (w1 x : World) (b b' : Nat) (c0 c1 c3 c4 c5 c6 c7 c9 c10 c11 d0 d1 d2 d3 d4 d5 d6 d7 d8 d9 d10 d11 : Value) (hb : Below w1.heap.size w1 x) (h1 : Ch x b c0 c1 (.slice none 0 0) c3 c4 c5 c6 c7 (.slice none 0 0) c9 c10 c11) (h2 : Ch x b' d0 d1 d2 d3 d4 d5 d6 d7 d8 d9 d10 d11) :
    Calls Try.prog 18 #[.pointer (some ⟨b, 0, none⟩)] x fun e x' => e = .returned (.tuple #[.int .i64 0, .bool true, .int .i64 0, .bool true]) ∧ Below w1.heap.size w1 x' ∧ Ch x' b c0 c1 (.slice none 0 0) c3 c4 c5 c6 c7 (.slice none 0 0) c9 c10 c11 ∧ Ch x' b' d0 d1 d2 d3 d4 d5 d6 d7 d8 d9 d10 d11 := by
  refine (waits_any x b c0 c1 c3 c4 c5 c6 c7 c9 c10 c11 h1).mono ?_
  rintro e x' ⟨rfl, n, rfl⟩
  exact ⟨rfl, below_draws hb n, h1, h2⟩

theorem rest_step (w1 x : World) (b : Nat) (rec : Bool) (ls pw wi ak ns rt dv at' : Int) (A : Option Addr) (n c : Nat) (c2 c8 : Value) (hb : Below w1.heap.size w1 x)
    (h : Ch x b (.bool rec) (.int .u32 ls) c2 (.slice A n c) (.int .i64 pw) (.int .i64 wi) (.int .i64 ak) (.int .u32 ns) c8 (.int .i64 rt) (.int .i64 dv) (.int .i64 at')) :
    Calls Try.prog 19 #[.pointer (some ⟨b, 0, none⟩)] x fun e x' => e = .returned (.tuple #[.bool rec, .int .u32 ls, .slice A n c, .int .i64 pw, .int .i64 wi, .int .i64 ak, .int .u32 ns, .int .i64 rt, .int .i64 dv, .int .i64 at']) ∧ Below w1.heap.size w1 x' := by
  refine (rest_any x b rec ls pw wi ak ns rt dv at' A n c c2 c8 h).mono ?_
  rintro e x' ⟨rfl, n, rfl⟩
  exact ⟨rfl, below_draws hb n⟩

/-- The row that 'copy' has filled reads as what was copied. -/
theorem row_of_splice {k : IntKind} {w : World} {g n : Nat} {t : TypeId} {z : Nat → Int} (h : w.heap[g]? = some (.cells (splice (List.replicate n (.int k 0)) 0 ((List.range n).map fun j => .int k (z j))).toArray t (0, 0))) : Row k w (some ⟨g, 0, none⟩) n z := by
  refine ⟨(fun h => by cases h), fun a ha c hc => ?_⟩
  cases ha
  rw [add_plain]
  simp only [Nat.zero_add, World.cell?, h]
  simp [splice, hc]

theorem madeCells_list (v : Value) (n : Nat) : madeCells #[v] n = (List.replicate n v).toArray := by
  simp only [madeCells]
  apply Array.ext
  · simp
  · intro i h1 h2
    simp [Nat.mod_one]
end Go.Proofs.Qxb6614995a.stop
