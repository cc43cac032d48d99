import Derived.Test.Qxb6614995aFrames
namespace Go.Proofs.Qxb6614995a.stop
open Go.ChangeShapes Go.WideShapes Go.ChangeAt Go.RowKit

/-- Block b is a channel: its twelve fields. -/
def Ch (w : World) (b : Nat) (c0 c1 c2 c3 c4 c5 c6 c7 c8 c9 c10 c11 : Value) : Prop :=
  w.heap[b]? = some (.cells #[c0, c1, c2, c3, c4, c5, c6, c7, c8, c9, c10, c11] 77 (0, 0))

section
variable {w : World} {b : Nat} {c0 c1 c2 c3 c4 c5 c6 c7 c8 c9 c10 c11 : Value}
theorem Ch.cell (h : Ch w b c0 c1 c2 c3 c4 c5 c6 c7 c8 c9 c10 c11) (i : Nat) : w.cell? ⟨b, i, none⟩ = #[c0, c1, c2, c3, c4, c5, c6, c7, c8, c9, c10, c11][i]? := by
  unfold Ch at h
  simp [World.cell?, h]
theorem Ch.frozen (h : Ch w b c0 c1 c2 c3 c4 c5 c6 c7 c8 c9 c10 c11) (i : Nat) : w.frozen? ⟨b, i, none⟩ = false := by
  unfold Ch at h
  simp [World.frozen?, h]
theorem Ch.lt (h : Ch w b c0 c1 c2 c3 c4 c5 c6 c7 c8 c9 c10 c11) : b < w.heap.size := by
  unfold Ch at h
  obtain ⟨hlt, _⟩ := Array.getElem?_eq_some_iff.1 h
  exact hlt
theorem Ch.of_block {w' : World} (h : Ch w b c0 c1 c2 c3 c4 c5 c6 c7 c8 c9 c10 c11) (e : w'.heap[b]? = w.heap[b]?) : Ch w' b c0 c1 c2 c3 c4 c5 c6 c7 c8 c9 c10 c11 := e.trans h
theorem Ch.set2 (h : Ch w b c0 c1 c2 c3 c4 c5 c6 c7 c8 c9 c10 c11) (v : Value) : Ch (w.setCell ⟨b, 2, none⟩ v) b c0 c1 v c3 c4 c5 c6 c7 c8 c9 c10 c11 := by
  unfold Ch at h ⊢
  simp [World.setCell, Array.getElem?_modify, h]
theorem Ch.set8 (h : Ch w b c0 c1 c2 c3 c4 c5 c6 c7 c8 c9 c10 c11) (v : Value) : Ch (w.setCell ⟨b, 8, none⟩ v) b c0 c1 c2 c3 c4 c5 c6 c7 v c9 c10 c11 := by
  unfold Ch at h ⊢
  simp [World.setCell, Array.getElem?_modify, h]
end

theorem stop_any (w : World) (b : Nat) (c0 c1 c2 c3 c4 c5 c6 c7 c8 c9 c10 c11 : Value) (h : Ch w b c0 c1 c2 c3 c4 c5 c6 c7 c8 c9 c10 c11) :
    Calls Try.prog 36 #[.pointer (some ⟨b, 0, none⟩)] w fun e w' => e = .returned (.tuple #[]) ∧ w' = (w.setCell ⟨b, 2, none⟩ (.slice none 0 0)).setCell ⟨b, 8, none⟩ (.slice none 0 0) := by
  have g2 : w.cell? ⟨b, 2, none⟩ = some c2 := h.cell 2
  have g8 : w.cell? ⟨b, 8, none⟩ = some c8 := h.cell 8
  have f2 := h.frozen 2
  have f8 := h.frozen 8
  clear h
  go_enter Try.func36, Try.ntmps36
  go_wp2
  go_end0
  exact ⟨rfl, rfl⟩

theorem zzstop_any (w : World) (b : Nat) (c0 c1 c2 c3 c4 c5 c6 c7 c8 c9 c10 c11 : Value) (h : Ch w b c0 c1 c2 c3 c4 c5 c6 c7 c8 c9 c10 c11) :
    Calls Try.prog 17 #[.pointer (some ⟨b, 0, none⟩)] w fun e w' => e = .returned (.tuple #[]) ∧ w' = (w.setCell ⟨b, 2, none⟩ (.slice none 0 0)).setCell ⟨b, 8, none⟩ (.slice none 0 0) := by
  have H : Hid (Ch w b c0 c1 c2 c3 c4 c5 c6 c7 c8 c9 c10 c11) := h
  clear h
  go_enter Try.func17, Try.ntmps17
  go_wp2_with fail
  refine (stop_any w b c0 c1 c2 c3 c4 c5 c6 c7 c8 c9 c10 c11 H.out).mono ?_
  rintro e w' ⟨rfl, hw⟩
  go_wp2
  go_end0
  exact ⟨rfl, rfl⟩

theorem waits_any (w : World) (b : Nat) (c0 c1 c3 c4 c5 c6 c7 c9 c10 c11 : Value) (h : Ch w b c0 c1 (.slice none 0 0) c3 c4 c5 c6 c7 (.slice none 0 0) c9 c10 c11) :
    Calls Try.prog 18 #[.pointer (some ⟨b, 0, none⟩)] w fun e w' => e = .returned (.tuple #[.int .i64 0, .bool true, .int .i64 0, .bool true]) ∧ ∃ n, w' = w.drewN n := by
  have q74 : ∀ (w : World) (a : Option Addr) (n c n' c' : Nat), (binOp .eql 74 (.slice a n c) (.slice none n' c')).run Try.prog w = .ok (.bool a.isNone) w := fun w a n c n' c' => Lib.run_eql_slice_nil w _ _ a n c n' c' Try.underlying74
  have q75 : ∀ (w : World) (a : Option Addr) (n c n' c' : Nat), (binOp .eql 75 (.slice a n c) (.slice none n' c')).run Try.prog w = .ok (.bool a.isNone) w := fun w a n c n' c' => Lib.run_eql_slice_nil w _ _ a n c n' c' Try.underlying75
  have g2 : w.cell? ⟨b, 2, none⟩ = some (.slice none 0 0) := h.cell 2
  have g8 : w.cell? ⟨b, 8, none⟩ = some (.slice none 0 0) := h.cell 8
  clear h
  go_enter Try.func18, Try.ntmps18
  go_wp2
  go_quiet (fail)
  go_wp2
  exact bodyPost_ret (v := .tuple #[.int .i64 0, .bool true, .int .i64 0, .bool true]) (by simp [results, Try.results18, go_sem]) rfl ⟨rfl, _, rfl⟩

theorem rest_any (w : World) (b : Nat) (rec : Bool) (ls pw wi ak ns rt dv at' : Int) (A : Option Addr) (n c : Nat) (c2 c8 : Value)
    (h : Ch w b (.bool rec) (.int .u32 ls) c2 (.slice A n c) (.int .i64 pw) (.int .i64 wi) (.int .i64 ak) (.int .u32 ns) c8 (.int .i64 rt) (.int .i64 dv) (.int .i64 at')) :
    Calls Try.prog 19 #[.pointer (some ⟨b, 0, none⟩)] w fun e w' => e = .returned (.tuple #[.bool rec, .int .u32 ls, .slice A n c, .int .i64 pw, .int .i64 wi, .int .i64 ak, .int .u32 ns, .int .i64 rt, .int .i64 dv, .int .i64 at']) ∧ ∃ n, w' = w.drewN n := by
  have g0 : w.cell? ⟨b, 0, none⟩ = some (.bool rec) := h.cell 0
  have g1 : w.cell? ⟨b, 1, none⟩ = some (.int .u32 ls) := h.cell 1
  have g3 : w.cell? ⟨b, 3, none⟩ = some (.slice A n c) := h.cell 3
  have g4 : w.cell? ⟨b, 4, none⟩ = some (.int .i64 pw) := h.cell 4
  have g5 : w.cell? ⟨b, 5, none⟩ = some (.int .i64 wi) := h.cell 5
  have g6 : w.cell? ⟨b, 6, none⟩ = some (.int .i64 ak) := h.cell 6
  have g7 : w.cell? ⟨b, 7, none⟩ = some (.int .u32 ns) := h.cell 7
  have g9 : w.cell? ⟨b, 9, none⟩ = some (.int .i64 rt) := h.cell 9
  have g10 : w.cell? ⟨b, 10, none⟩ = some (.int .i64 dv) := h.cell 10
  have g11 : w.cell? ⟨b, 11, none⟩ = some (.int .i64 at') := h.cell 11
  clear h
  go_enter Try.func19, Try.ntmps19
  go_wp2
  go_quiet (fail)
  go_wp2
  exact bodyPost_ret (v := .tuple #[.bool rec, .int .u32 ls, .slice A n c, .int .i64 pw, .int .i64 wi, .int .i64 ak, .int .u32 ns, .int .i64 rt, .int .i64 dv, .int .i64 at']) (by simp [results, Try.results19, go_sem]) rfl ⟨rfl, _, rfl⟩
end Go.Proofs.Qxb6614995a.stop
