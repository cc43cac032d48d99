import Derived.Test.Qxb6615092aDoorBytesAt
namespace Go.Proofs.Qxb6615092aDoor.rew
open Go.ChangeShapes Go.WideShapes Go.ChangeAt Go.RowKit

/-- What the walk is told of the slice of bytes that came in. -/
def Came (w : World) (A : Option Addr) (n c : Nat) (z : Nat → Int) : Prop := (A = none → n = 0 ∧ c = 0) ∧ n ≤ c ∧ c ≤ maxLen ∧ ∀ a, A = some a → ∀ j, j < n → w.cell? (a.add j) = some (.int .u8 (z j))

theorem copy_src {w wx : World} {a : Addr} {n c : Nat} {z : Nat → Int} (h : Came w (some a) n c z) (hb : Below w.heap.size w wx) :
    ∀ j v, ((List.range n).map fun j => Value.int .u8 (z j))[j]? = some v → wx.cell? (a.add j) = some v := by
  intro j v hv
  rw [List.getElem?_map] at hv
  obtain ⟨i, hi, rfl⟩ := Option.map_eq_some_iff.1 hv
  obtain ⟨hlt, rfl⟩ := List.getElem?_eq_some_iff.1 hi
  simp at hlt ⊢
  exact cell_later hb (h.2.2.2 a rfl j hlt)

/-- 'zzc := make([]byte, n); copy(zzc, b)', b not nil. -/
theorem copy_run (ot : TypeId) (a : Addr) (n c : Nat) (z : Nat → Int) (w : World) (h : Came w (some a) n c z) :
    ∃ (w2 : World) (v : Value), (Builtin.copy_ #[22, 22] ot #[.slice (some ⟨w.heap.size, 0, none⟩) n n, .slice (some a) n c]).run Tryd.prog (w.alloc (.cells (madeCells #[.int .u8 0] n) 5)) = .ok v w2 ∧
      Over w2 (some ⟨w.heap.size, 0, none⟩) n ∧ Below w.heap.size w w2 := by
  have hb : Below w.heap.size w (w.alloc (.cells (madeCells #[.int .u8 0] n) 5)) := (Below.refl _ _).alloc (Nat.le_refl _) _
  by_cases h0 : n = 0
  · subst h0
    have hrun := run_copy_none (P := Tryd.prog) (w.alloc (.cells (madeCells #[.int .u8 0] 0) 5)) 22 22 ot 5 (some ⟨w.heap.size, 0, none⟩) (some a) 0 0 0 c Tryd.underlying22 size5 rfl
    exact ⟨_, _, hrun, .inl rfl, hb⟩
  · have hg := alloc_at w (.cells (madeCells #[.int .u8 0] n) 5)
    have hrun := run_copy_row (P := Tryd.prog) (w.alloc (.cells (madeCells #[.int .u8 0] n) 5)) 22 22 ot 5 w.heap.size 0 n n a n c (madeCells #[.int .u8 0] n) 5 ((List.range n).map fun j => .int .u8 (z j)) Tryd.underlying22 size5 hg (by simp) (copy_src h hb) (by simp [size_madeCells])
      (fun v hv => by obtain ⟨j, _, rfl⟩ := List.mem_map.1 hv; rfl)
    refine ⟨_, _, hrun, .inr ⟨w.heap.size, 0, rfl, z, fun j hj => ?_⟩, below_setRow hb (Nat.le_refl _) _⟩
    have hrow := setRow_heap _ w.heap.size _ ((madeCells #[.int .u8 0] n).toList.take 0 ++ (List.range n).map (fun j => Value.int .u8 (z j)) ++ (madeCells #[.int .u8 0] n).toList.drop (0 + ((List.range n).map fun j => Value.int .u8 (z j)).length)).toArray 5 _ hg
    simp only [Nat.zero_add, World.cell?] at hrow ⊢
    rw [hrow]
    simp [hj, List.getElem?_append]

theorem law_long (A : Option Addr) (n c : Nat) (h : 1048576 < n) (w : World) :
    Calls Tryd.prog 3 #[.slice A n c] w fun e w' => e = .returned (.bool true) ∧ Below w.heap.size w w' := by
  go_enter Tryd.func3, Tryd.ntmps3
  go_wp2_with (go_at_call 5; refine (bytes_no A n c h _).mono ?_; rintro e w' ⟨rfl, rfl⟩)
  go_ret
  exact ⟨rfl, Below.refl _ _⟩

set_option maxRecDepth 100000 in
set_option maxHeartbeats 1000000 in
theorem law_nil (ae : Addr) (w : World) (hev : w.cell? ⟨0, 0, none⟩ = some (.iface 73 (.pointer (some ae)))) :
    Calls Tryd.prog 3 #[.slice none 0 0] w fun e w' => e = .returned (.bool true) ∧ Below w.heap.size w w' := by
  have q22 : ∀ (w : World) (a : Option Addr) (n c n' c' : Nat), (binOp .neq 22 (.slice a n c) (.slice none n' c')).run Tryd.prog w = .ok (.bool (!a.isNone)) w := fun w a n c n' c' => run_neq_slice_nil_any w _ _ a n c n' c' Tryd.underlying22
  have h0 : 0 < w.heap.size := World.block_lt_of_cell? w _ hev
  have HE : Hid (w.cell? ⟨0, 0, none⟩ = some (.iface 73 (.pointer (some ae)))) := hev
  clear hev
  go_enter Tryd.func3, Tryd.ntmps3
  go_wp2_with (go_at_call 5; refine (bytes_yes none 0 0 (by omega) _).mono ?_; rintro e w' ⟨rfl, rfl⟩)
  refine (stream_any none 0 0 w).mono ?_
  rintro e w1 ⟨rfl, hb1⟩
  have HB1 : Hid (Below w.heap.size w w1) := hb1
  clear hb1
  go_wp2_with fail
  refine (bytesAt_any none 0 0 ae (by omega) (by omega) (by unfold maxLen; omega) w1 (.inl rfl) ((HB1.out.cell (p := ⟨0, 0, none⟩) h0).trans HE.out)).mono ?_
  rintro e w2 ⟨v1, v2, rfl, hb2⟩
  have HB2 : Hid (Below w.heap.size w w2) := HB1.out.trans (hb2.mono HB1.out.size)
  clear hb2
  go_wp2
  go_ret
  exact ⟨rfl, HB2.out⟩

set_option maxRecDepth 100000 in
set_option maxHeartbeats 1000000 in
theorem law_some (a : Addr) (n c : Nat) (z : Nat → Int) (ae : Addr) (hn : n ≤ 1048576) (w : World) (h : Came w (some a) n c z) (hev : w.cell? ⟨0, 0, none⟩ = some (.iface 73 (.pointer (some ae)))) :
    Calls Tryd.prog 3 #[.slice (some a) n c] w fun e w' => e = .returned (.bool true) ∧ Below w.heap.size w w' := by
  have q22 : ∀ (w : World) (a : Option Addr) (n c n' c' : Nat), (binOp .neq 22 (.slice a n c) (.slice none n' c')).run Tryd.prog w = .ok (.bool (!a.isNone)) w := fun w a n c n' c' => run_neq_slice_nil_any w _ _ a n c n' c' Tryd.underlying22
  have hmk := run_make_row' (P := Tryd.prog) 22 5 (.int .u8 0) 1 Tryd.underlying22 info5 rfl .i64 .i64 n (by omega) (by omega)
  obtain ⟨w2, v2, hrun, hov, hb2⟩ := copy_run 3 a n c z w h
  have h0 : 0 < w.heap.size := World.block_lt_of_cell? w _ hev
  have HE : Hid (w.cell? ⟨0, 0, none⟩ = some (.iface 73 (.pointer (some ae)))) := hev
  have HO : Hid (Over w2 (some ⟨w.heap.size, 0, none⟩) n) := hov
  have HB2 : Hid (Below w.heap.size w w2) := hb2
  have h1 : ¬ ((1048576 : Int) < (n : Int)) := by omega
  clear hev hov hb2 h
  go_enter Tryd.func3, Tryd.ntmps3
  go_wp2_with (go_at_call 5; refine (bytes_yes (some a) n c hn _).mono ?_; rintro e w' ⟨rfl, rfl⟩)
  refine (stream_any (some ⟨w.heap.size, 0, none⟩) n n w2).mono ?_
  rintro e w3 ⟨rfl, hb3⟩
  have HB3' : Hid (Below w2.heap.size w2 w3) := hb3
  have HB3 : Hid (Below w.heap.size w w3) := HB2.out.trans (hb3.mono HB2.out.size)
  have HO3 : Hid (Over w3 (some ⟨w.heap.size, 0, none⟩) n) := by
    rcases HO.out with h | ⟨b, off, e, z, hz⟩
    · exact .inl h
    · exact .inr ⟨b, off, e, z, fun j hj => cell_later hb3 (hz j hj)⟩
  clear hb3
  go_wp2_with fail
  refine (bytesAt_any (some ⟨w.heap.size, 0, none⟩) n n ae hn (Nat.le_refl _) (by unfold maxLen; omega) w3 HO3.out ((HB3.out.cell (p := ⟨0, 0, none⟩) h0).trans HE.out)).mono ?_
  rintro e w4 ⟨u1, u2, rfl, hb4⟩
  have HB4 : Hid (Below w.heap.size w w4) := HB3.out.trans (hb4.mono HB3.out.size)
  clear hb4
  go_wp2
  go_ret
  exact ⟨rfl, HB4.out⟩

/-- THE LAW, whatever slice. -/
theorem law_any (A : Option Addr) (n c : Nat) (z : Nat → Int) (ae : Addr) (w : World) (h : Came w A n c z) (hev : w.cell? ⟨0, 0, none⟩ = some (.iface 73 (.pointer (some ae)))) :
    Calls Tryd.prog 3 #[.slice A n c] w fun e w' => e = .returned (.bool true) ∧ Below w.heap.size w w' := by
  by_cases hn : 1048576 < n
  · exact law_long A n c hn w
  · rcases A with _ | a
    · obtain ⟨rfl, rfl⟩ := h.1 rfl
      exact law_nil ae w hev
    · exact law_some a n c z ae (by omega) w h hev
end Go.Proofs.Qxb6615092aDoor.rew
