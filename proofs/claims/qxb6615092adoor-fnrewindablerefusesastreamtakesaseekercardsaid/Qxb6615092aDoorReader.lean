import Derived.Test.Qxb6615092aDoorRows
import Derived.WalkKit
import Derived.WalkSpells
import Derived.WalkLawsBesides
import Derived.ProofKit
import Derived.Deep.QuietTactic
import Derived.BigQuiet
import Derived.Deep.OwnRows
import Derived.Deep.RegionWith
import Derived.Laws.CopyOwn
namespace Go.Proofs.Qxb6615092aDoor.rew
open Go.ChangeShapes Go.WideShapes Go.ChangeAt Go.RowKit

theorem bytes_yes (a : Option Addr) (n c : Nat) (h : n ≤ 1048576) (w : World) :
    Calls Tryd.prog 5 #[.slice a n c] w fun x w' => x = .returned (.bool true) ∧ w = w' := by
  have h1 : ¬ ((1048576 : Int) < (n : Int)) := by omega
  go_enter Tryd.func5, Tryd.ntmps5
  go_wp2
  go_ret
  exact ⟨rfl, rfl⟩

theorem bytes_no (a : Option Addr) (n c : Nat) (h : 1048576 < n) (w : World) :
    Calls Tryd.prog 5 #[.slice a n c] w fun x w' => x = .returned (.bool false) ∧ w = w' := by
  have h1 : (1048576 : Int) < (n : Int) := by omega
  go_enter Tryd.func5, Tryd.ntmps5
  go_wp2
  go_ret
  exact ⟨rfl, rfl⟩

/-- Block R is a bytes.Reader over the slice 'A n c', at place i. -/
def Rd (w : World) (R : Nat) (A : Option Addr) (n c : Nat) (i p : Int) : Prop := w.heap[R]? = some (.cells #[.slice A n c, .int .i64 i, .int .i64 p] 67 (0, 0))

section
variable {w : World} {R : Nat} {A : Option Addr} {n c : Nat} {i p : Int}
theorem Rd.cell (h : Rd w R A n c i p) (j : Nat) : w.cell? ⟨R, j, none⟩ = #[.slice A n c, .int .i64 i, .int .i64 p][j]? := by
  unfold Rd at h
  simp [World.cell?, h]
theorem Rd.frozen (h : Rd w R A n c i p) (j : Nat) : w.frozen? ⟨R, j, none⟩ = false := by
  unfold Rd at h
  simp [World.frozen?, h]
theorem Rd.lt (h : Rd w R A n c i p) : R < w.heap.size := by
  unfold Rd at h
  obtain ⟨hlt, _⟩ := Array.getElem?_eq_some_iff.1 h
  exact hlt
theorem Rd.of_block {w' : World} (h : Rd w R A n c i p) (e : w'.heap[R]? = w.heap[R]?) : Rd w' R A n c i p := e.trans h
theorem Rd.set1 (h : Rd w R A n c i p) (q : Int) : Rd (w.setCell ⟨R, 1, none⟩ (.int .i64 q)) R A n c q p := by
  unfold Rd at h ⊢
  simp [World.setCell, Array.getElem?_modify, h]
theorem Rd.set2 (h : Rd w R A n c i p) (q : Int) : Rd (w.setCell ⟨R, 2, none⟩ (.int .i64 q)) R A n c i q := by
  unfold Rd at h ⊢
  simp [World.setCell, Array.getElem?_modify, h]
end

theorem alloc_at (w : World) (o : Obj) : (w.alloc o).heap[w.heap.size]? = some o := by
  show (w.heap.push o)[w.heap.size]? = _
  simp

theorem newReader_any (A : Option Addr) (n c : Nat) (w : World) :
    Calls Tryd.prog 15 #[.slice A n c] w fun e w' => e = .returned (.pointer (some ⟨w.heap.size, 0, none⟩)) ∧ Below w.heap.size w w' ∧ Rd w' w.heap.size A n c 0 (-1) := by
  go_enter Tryd.func15, Tryd.ntmps15
  go_wp2
  go_ret
  exact ⟨rfl, (Below.refl _ _).alloc (Nat.le_refl _) _, alloc_at _ _⟩

/-- The blocks but R are as they were. -/
structure But (R : Nat) (w w' : World) : Prop where
  os : w'.os = w.os
  tape : w'.tape = w.tape
  output : w'.output = w.output
  size : w.heap.size ≤ w'.heap.size
  block : ∀ k, k < w.heap.size → k ≠ R → w'.heap[k]? = w.heap[k]?

theorem But.refl (R : Nat) (w : World) : But R w w := ⟨rfl, rfl, rfl, Nat.le_refl _, fun _ _ _ => rfl⟩
theorem But.trans {R : Nat} {a b c : World} (h : But R a b) (k : But R b c) : But R a c :=
  ⟨k.os.trans h.os, k.tape.trans h.tape, k.output.trans h.output, Nat.le_trans h.size k.size, fun i hi hr => (k.block i (Nat.lt_of_lt_of_le hi h.size) hr).trans (h.block i hi hr)⟩
theorem But.setR {R : Nat} {a w : World} (h : But R a w) (j : Nat) (v : Value) : But R a (w.setCell ⟨R, j, none⟩ v) :=
  h.trans ⟨rfl, rfl, rfl, by simp [World.setCell], fun k _ hr => Below.heap_setCell _ _ _ _ hr⟩
theorem But.below {R B : Nat} {a w w' : World} (h : Below B a w) (k : But R w w') (hB : B ≤ R) (hs : B ≤ w.heap.size) : Below B a w' :=
  ⟨k.os.trans h.os, k.tape.trans h.tape, k.output.trans h.output, Nat.le_trans h.size k.size, fun i hi => (k.block i (by omega) (by omega)).trans (h.block i hi)⟩
theorem But.of_below {R : Nat} {w w' : World} (h : Below w.heap.size w w') : But R w w' := ⟨h.os, h.tape, h.output, h.size, fun i hi _ => h.block i hi⟩
theorem But.drewN {R : Nat} {w w' : World} (h : But R w w') (n : Nat) : But R w (w'.drewN n) := ⟨h.os, h.tape, h.output, h.size, h.block⟩

theorem seek_start (R : Nat) (A : Option Addr) (n c : Nat) (i p o : Int) (ho : 0 ≤ o) (w : World) (h : Rd w R A n c i p) :
    Calls Tryd.prog 16 #[.pointer (some ⟨R, 0, none⟩), .int .i64 o, .int .i64 0] w fun e w' => e = .returned (.tuple #[.int .i64 o, .nilIface]) ∧ But R w w' ∧ Rd w' R A n c o (-1) := by
  have g1 : w.cell? ⟨R, 1, none⟩ = some (.int .i64 i) := h.cell 1
  have g2 : w.cell? ⟨R, 2, none⟩ = some (.int .i64 p) := h.cell 2
  have f1 := h.frozen 1
  have f2 := h.frozen 2
  have H : Hid (Rd w R A n c i p) := h
  clear h
  go_enter Tryd.func16, Tryd.ntmps16
  go_wp2
  go_ret2
  exact ⟨rfl, ((But.refl _ _).setR 2 _).setR 1 _, (H.out.set2 _).set1 _⟩

theorem seek_current (R : Nat) (A : Option Addr) (n c : Nat) (i p : Int) (hi0 : 0 ≤ i) (hi1 : i ≤ 1048576) (w : World) (h : Rd w R A n c i p) :
    Calls Tryd.prog 16 #[.pointer (some ⟨R, 0, none⟩), .int .i64 0, .int .i64 1] w fun e w' => e = .returned (.tuple #[.int .i64 i, .nilIface]) ∧ But R w w' ∧ Rd w' R A n c i (-1) := by
  have g1 : w.cell? ⟨R, 1, none⟩ = some (.int .i64 i) := h.cell 1
  have g2 : w.cell? ⟨R, 2, none⟩ = some (.int .i64 p) := h.cell 2
  have f1 := h.frozen 1
  have f2 := h.frozen 2
  have H : Hid (Rd w R A n c i p) := h
  clear h
  go_enter Tryd.func16, Tryd.ntmps16
  go_wp2
  go_ret2
  exact ⟨rfl, ((But.refl _ _).setR 2 _).setR 1 _, (H.out.set2 _).set1 _⟩
end Go.Proofs.Qxb6615092aDoor.rew
