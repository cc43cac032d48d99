import Derived.Test.Qxb6615092aDoorReader
import Derived.Stop.Asserts
namespace Go.Proofs.Qxb6615092aDoor.rew
open Go.ChangeShapes Go.WideShapes Go.ChangeAt Go.RowKit

theorem assert_seeker (a : Option Addr) (w : World) : (Instr.typeAssert (.iface 39 (.pointer a)) 42 36 true).run Tryd.prog w = .ok (.tuple #[.iface 39 (.pointer a), .bool true]) w := by kernel_rfl
theorem assert_stat (a : Option Addr) (w : World) : (Instr.typeAssert (.iface 39 (.pointer a)) 42 56 true).run Tryd.prog w = .ok (.tuple #[.nilIface, .bool false]) w :=
  run_typeAssert_lacksB Tryd.underlying56 (by kernel_rfl) (by kernel_rfl) _ 42 w
theorem assert_stream (v : Value) (w : World) : (Instr.typeAssert (.iface 43 v) 42 36 true).run Tryd.prog w = .ok (.tuple #[.nilIface, .bool false]) w :=
  run_typeAssert_lacksB Tryd.underlying36 (by kernel_rfl) (by kernel_rfl) v 42 w

theorem rewindable_reader (R : Nat) (w : World) :
    Calls Tryd.prog 14 #[.iface 39 (.pointer (some ⟨R, 0, none⟩))] w fun e w' => e = .returned (.tuple #[.iface 39 (.pointer (some ⟨R, 0, none⟩)), .bool true]) ∧ w = w' := by
  have a1 := assert_seeker
  have a2 := assert_stat
  go_enter Tryd.func14, Tryd.ntmps14
  go_wp2
  go_ret2
  exact ⟨rfl, rfl⟩

theorem rewindable_stream (v : Value) (w : World) :
    Calls Tryd.prog 14 #[.iface 43 v] w fun e w' => e = .returned (.tuple #[.nilIface, .bool false]) ∧ w = w' := by
  have a1 := assert_stream
  go_enter Tryd.func14, Tryd.ntmps14
  go_wp2
  go_ret2
  exact ⟨rfl, rfl⟩

theorem stream_any (A : Option Addr) (n c : Nat) (w : World) :
    Calls Tryd.prog 6 #[.slice A n c] w fun e w' => e = .returned (.tuple #[.bool true, .bool false]) ∧ Below w.heap.size w w' := by
  go_enter Tryd.func6, Tryd.ntmps6
  go_wp2_with (first | (go_at_call 15; refine (newReader_any A n c _).mono ?_; rintro e w1 ⟨rfl, hb, _⟩) | (go_at_call 14; refine (rewindable_stream _ _).mono ?_; rintro e w' ⟨rfl, rfl⟩))
  go_ret2
  exact ⟨rfl, hb⟩
end Go.Proofs.Qxb6615092aDoor.rew
