import Derived.Test.Qxb6614995aTime
import Derived.Test.Qxb6614995aChan
import Derived.Deep.RegionWith
import Derived.Deep.DeepCutAuto
namespace Go.Proofs.Qxb6614995a.stop
open Go.ChangeShapes Go.WideShapes Go.ChangeAt Go.RowKit

/-- Block M is a row of q cells, none frozen, whatever they hold. -/
def Blk (w : World) (M : Nat) (t : TypeId) (q : Nat) : Prop := ∃ c : Array Value, w.heap[M]? = some (.cells c t (0, 0)) ∧ c.size = q

theorem Blk.cell {w : World} {M : Nat} {t : TypeId} {q : Nat} (h : Blk w M t q) {i : Nat} (hi : i < q) : ∃ v, w.cell? ⟨M, i, none⟩ = some v := by
  obtain ⟨c, hb, hn⟩ := h
  exact ⟨c[i]'(by omega), by simp [World.cell?, hb]⟩
theorem Blk.frozen {w : World} {M : Nat} {t : TypeId} {q : Nat} (h : Blk w M t q) (i : Nat) : w.frozen? ⟨M, i, none⟩ = false := by
  obtain ⟨c, hb, _⟩ := h
  simp [World.frozen?, hb]
theorem Blk.lt {w : World} {M : Nat} {t : TypeId} {q : Nat} (h : Blk w M t q) : M < w.heap.size := by
  obtain ⟨c, hb, _⟩ := h
  obtain ⟨hlt, _⟩ := Array.getElem?_eq_some_iff.1 hb
  exact hlt
theorem Blk.of_block {w w' : World} {M : Nat} {t : TypeId} {q : Nat} (h : Blk w M t q) (e : w'.heap[M]? = w.heap[M]?) : Blk w' M t q := by
  obtain ⟨c, hb, hn⟩ := h
  exact ⟨c, e.trans hb, hn⟩
theorem Blk.set {w : World} {M : Nat} {t : TypeId} {q : Nat} (h : Blk w M t q) (i : Nat) (v : Value) : Blk (w.setCell ⟨M, i, none⟩ v) M t q := by
  obtain ⟨c, hb, hn⟩ := h
  exact ⟨c.setIfInBounds i v, by simp [World.setCell, Array.getElem?_modify, hb], by simpa using hn⟩

theorem alloc_at (w : World) (o : Obj) : (w.alloc o).heap[w.heap.size]? = some o := by
  show (w.heap.push o)[w.heap.size]? = _
  simp

theorem info81 : (Try.prog.info? 81).map (fun i => (i.zero, i.size, i.bytes)) = some (some (.agg #[.int .u64 0, .int .i64 0, .pointer none]), 3, 24) := by kernel_rfl
theorem info84 : (Try.prog.info? 84).map (fun i => (i.zero, i.size, i.bytes)) = some (some (.agg #[.int .u32 0, .int .u64 0, .int .i64 0, .pointer none]), 4, 32) := by kernel_rfl

/-- 'make([]time.Time, n)', for every world. -/
theorem make74 (n : Nat) (hn : n ≤ 1048576) (w : World) : (Instr.makeSlice 74 (.int .i64 (n : Int)) (.int .i64 (n : Int))).run Try.prog w =
    .ok (.slice (some ⟨w.heap.size, 0, none⟩) n n) (w.alloc (.cells (madeCells #[.int .u64 0, .int .i64 0, .pointer none] (n * 3)) 81)) := by
  obtain ⟨i0, hi, hz0, hz1, hz2⟩ := info_parts info81
  have hr := run_make (P := Try.prog) w 74 81 i0 _ Try.underlying74 hi hz0 .i64 .i64 n n (by omega) (Int.le_refl _) (by rw [hz2]; omega) (by omega)
  simp only [Int.toNat_natCast, hz1] at hr
  exact hr

theorem start_blk (w : World) (o : Obj) (c : Array Value) (n t : Nat) : Blk ((w.alloc o).alloc (.cells (madeCells c n) t)) (w.heap.size + 1) t n := by
  have := alloc_at (w.alloc o) (.cells (madeCells c n) t)
  rw [World.size_alloc] at this
  exact ⟨_, this, size_madeCells _ _⟩

/-- What both loops of 'ZZnewChannel' hold at every head: nothing old has turned; block M is the slice that is filled; the channel lies in the first new block. -/
structure St (w wr : World) (M t q : Nat) (c0 c1 c2 c3 c4 c5 c6 c7 c8 c9 c10 c11 : Value) : Prop where
  below : Below w.heap.size w wr
  blk : Blk wr M t q
  ch : Ch wr w.heap.size c0 c1 c2 c3 c4 c5 c6 c7 c8 c9 c10 c11
  gt : w.heap.size < M

theorem below_of_drew {w w1 : World} (h : Below w.drew.heap.size w.drew w1) : Below w.heap.size w w1 := ⟨h.os, h.tape, h.output, h.size, h.block⟩

section
variable {w wr : World} {M t q : Nat} {c0 c1 c2 c3 c4 c5 c6 c7 c8 c9 c10 c11 : Value}
theorem St.call {w1 : World} (h : St w wr M t q c0 c1 c2 c3 c4 c5 c6 c7 c8 c9 c10 c11) (hb : Below wr.heap.size wr w1) : St w w1 M t q c0 c1 c2 c3 c4 c5 c6 c7 c8 c9 c10 c11 :=
  ⟨h.below.trans (hb.mono h.below.size), h.blk.of_block (hb.block _ h.blk.lt), h.ch.of_block (hb.block _ h.ch.lt), h.gt⟩
theorem St.start2 {wc : World} (hb : Below w.heap.size w wc) (hc : Ch wc w.heap.size c0 c1 c2 c3 c4 c5 c6 c7 c8 c9 c10 c11) (v : Value) (cz : Array Value) (q t : Nat) :
    St w ((wc.setCell ⟨w.heap.size, 8, none⟩ v).alloc (.cells (madeCells cz q) t)) wc.heap.size t q c0 c1 c2 c3 c4 c5 c6 c7 v c9 c10 c11 := by
  have hs : (wc.setCell ⟨w.heap.size, 8, none⟩ v).heap.size = wc.heap.size := World.size_setCell _ _ _
  refine ⟨(hb.setCell (Nat.le_refl _) _).alloc (by rw [hs]; exact hb.size) _, ⟨madeCells cz q, ?_, size_madeCells _ _⟩, (Below.heap_alloc _ _ _ (by rw [hs]; exact hc.lt)).trans (hc.set8 v), hc.lt⟩
  have := alloc_at (wc.setCell ⟨w.heap.size, 8, none⟩ v) (.cells (madeCells cz q) t)
  rw [hs] at this
  exact this
theorem St.drew (h : St w wr M t q c0 c1 c2 c3 c4 c5 c6 c7 c8 c9 c10 c11) : St w wr.drew M t q c0 c1 c2 c3 c4 c5 c6 c7 c8 c9 c10 c11 :=
  ⟨h.below.drew, h.blk, h.ch, h.gt⟩
theorem St.set (h : St w wr M t q c0 c1 c2 c3 c4 c5 c6 c7 c8 c9 c10 c11) (i : Nat) (v : Value) : St w (wr.setCell ⟨M, i, none⟩ v) M t q c0 c1 c2 c3 c4 c5 c6 c7 c8 c9 c10 c11 :=
  have hg := h.gt
  ⟨h.below.setCell (Nat.le_of_lt hg) _, h.blk.set i v, h.ch.of_block (Below.heap_setCell _ _ _ _ (by simp; omega)), hg⟩
end

/-- 'make([]sentPacket, m)', for every world. -/
theorem make75 (n : Nat) (hn : n ≤ 1048576) (w : World) : (Instr.makeSlice 75 (.int .i64 (n : Int)) (.int .i64 (n : Int))).run Try.prog w =
    .ok (.slice (some ⟨w.heap.size, 0, none⟩) n n) (w.alloc (.cells (madeCells #[.int .u32 0, .int .u64 0, .int .i64 0, .pointer none] (n * 4)) 84)) := by
  obtain ⟨i0, hi, hz0, hz1, hz2⟩ := info_parts info84
  have hr := run_make (P := Try.prog) w 75 84 i0 _ Try.underlying75 hi hz0 .i64 .i64 n n (by omega) (Int.le_refl _) (by rw [hz2]; omega) (by omega)
  simp only [Int.toNat_natCast, hz1] at hr
  exact hr

set_option maxHeartbeats 2000000 in
theorem new_any (rec : Bool) (ls pw wi ak ns rt dv at' : Int) (E : Option Addr) (en ec : Nat) (A : Option Addr) (n c : Nat) (hn : n ≤ 1048576) (hA0 : A = none → c = 0) (z : Nat → Int) (B : Option Addr) (m d : Nat) (hm : m ≤ 1048576) (hB0 : B = none → d = 0) (y : Nat → Int)
    (w : World) (hR : Row .i64 w A n z) (hS : Row .u32 w B m y) :
    Calls Try.prog 16 #[.bool rec, .int .u32 ls, .slice A n c, .slice E en ec, .int .i64 pw, .int .i64 wi, .int .i64 ak, .int .u32 ns, .slice B m d, .int .i64 rt, .int .i64 dv, .int .i64 at'] w
      fun e w' => e = .returned (.pointer (some ⟨w.heap.size, 0, none⟩)) ∧ Below w.heap.size w w' ∧
        ∃ c2 c8, Ch w' w.heap.size (.bool rec) (.int .u32 ls) c2 (.slice E en ec) (.int .i64 pw) (.int .i64 wi) (.int .i64 ak) (.int .u32 ns) c8 (.int .i64 rt) (.int .i64 dv) (.int .i64 at') := by
  have q34 : ∀ (w : World) (a : Option Addr) (n c n' c' : Nat), (binOp .neq 34 (.slice a n c) (.slice none n' c')).run Try.prog w = .ok (.bool (!a.isNone)) w := fun w a n c n' c' => run_neq_slice_nil_any w _ _ a n c n' c' Try.underlying34
  have q36 : ∀ (w : World) (a : Option Addr) (n c n' c' : Nat), (binOp .neq 36 (.slice a n c) (.slice none n' c')).run Try.prog w = .ok (.bool (!a.isNone)) w := fun w a n c n' c' => run_neq_slice_nil_any w _ _ a n c n' c' Try.underlying36
  go_enter Try.func16, Try.ntmps16
  go_upto_if 41 with (fail)
  go_cut [] (fun wc => Below w.heap.size w wc ∧ ∃ c2, Ch wc w.heap.size (.bool rec) (.int .u32 ls) c2 (.slice E en ec) (.int .i64 pw) (.int .i64 wi) (.int .i64 ak) (.int .u32 ns) (.slice none 0 0) (.int .i64 rt) (.int .i64 dv) (.int .i64 at'))
  case first =>
    rcases A with _ | a
    · obtain rfl := hR.1 rfl
      obtain rfl := hA0 rfl
      clear hR hS
      go_wp2
      go_meet
      case rel => exact ⟨(Below.refl _ _).alloc (Nat.le_refl _) _, _, alloc_at _ _⟩
    · have hmk := make74 n hn
      go_wp2
      go_loopw [50] (fun i wr => ∃ k : Nat, k ≤ n ∧ i = .int .i64 k ∧ St w wr (w.heap.size + 1) 81 (n * 3) (.bool rec) (.int .u32 ls) (.slice (some ⟨w.heap.size + 1, 0, none⟩) n n) (.slice E en ec) (.int .i64 pw) (.int .i64 wi) (.int .i64 ak) (.int .u32 ns) (.slice none 0 0) (.int .i64 rt) (.int .i64 dv) (.int .i64 at'))
        (fun i _ => n - (intOf i).toNat)
      case atStart =>
        exact ⟨0, Nat.zero_le _, rfl, ((Below.refl _ _).alloc (Nat.le_refl _) _).alloc (by simp) _, start_blk w _ _ (n * 3) 81, (Below.heap_alloc _ _ _ (by simp)).trans (alloc_at _ _), by omega⟩
      case round =>
        obtain ⟨k, hk, rfl, hst⟩ := hrel
        by_cases hlt : k < n
        · obtain ⟨b, off, rfl, hc⟩ := hR.plain (by omega)
          have hbb : b < w.heap.size := hR.block (by omega)
          have g1 := (hst.below.cell (p := ⟨b, off + k, none⟩) hbb).trans (hc k hlt)
          have g2 : wr.cell? ⟨w.heap.size, 2, none⟩ = some (.slice (some ⟨w.heap.size + 1, 0, none⟩) n n) := hst.ch.cell 2
          have hi : (k : Int) < (n : Int) := by omega
          have hl2 := hst.ch.lt
          have hl3 := hst.blk.lt
          have H : Hid (St w wr (w.heap.size + 1) 81 (n * 3) (.bool rec) (.int .u32 ls) (.slice (some ⟨w.heap.size + 1, 0, none⟩) n n) (.slice E en ec) (.int .i64 pw) (.int .i64 wi) (.int .i64 ak) (.int .u32 ns) (.slice none 0 0) (.int .i64 rt) (.int .i64 dv) (.int .i64 at')) := hst
          clear hc hR hst hS
          go_wp2
          go_region_with (go_at_call 35; refine (add_any _ _).mono ?_; rintro e w1 ⟨x, y, rfl, hbel1⟩; have hk1 := H.out.blk.of_block (hbel1.block _ hl3); obtain ⟨u0, gu0⟩ := hk1.cell (i := k * 3) (by omega); obtain ⟨u1, gu1⟩ := hk1.cell (i := k * 3 + 1) (by omega); obtain ⟨u2, gu2⟩ := hk1.cell (i := k * 3 + 2) (by omega); have f0 := hk1.frozen (k * 3); have f1 := hk1.frozen (k * 3 + 1); have f2 := hk1.frozen (k * 3 + 2); have g3 := (hbel1.cell (p := ⟨w.heap.size, 2, none⟩) hl2).trans g2)
          all_goals
            have HB1 : Hid (Below wr.heap.size wr w1) := below_of_drew hbel1
            clear hk1 gu0 gu1 gu2 f0 f1 f2 g3 hbel1 g1 g2
            go_wp2
            go_roundw
            case rel => (repeat apply Exists.intro); exact ⟨⟨k + 1, by omega, by go_num, (((H.out.call HB1.out).set _ _).set _ _).set _ _⟩, rfl⟩
            case measure => simp [intOf]; omega
        · have H : Hid (St w wr (w.heap.size + 1) 81 (n * 3) (.bool rec) (.int .u32 ls) (.slice (some ⟨w.heap.size + 1, 0, none⟩) n n) (.slice E en ec) (.int .i64 pw) (.int .i64 wi) (.int .i64 ak) (.int .u32 ns) (.slice none 0 0) (.int .i64 rt) (.int .i64 dv) (.int .i64 at')) := hst
          clear hR hst hS
          go_wp2
          go_meet
          case rel => exact ⟨H.out.below, _, H.out.ch⟩
  case rest =>
    obtain ⟨hbel, c2, hch⟩ := hcut
    have hcl := hch.lt
    rcases B with _ | a
    · obtain rfl := hS.1 rfl
      obtain rfl := hB0 rfl
      have H : Hid (Below w.heap.size w wc) := hbel
      have H2 : Hid (Ch wc w.heap.size (.bool rec) (.int .u32 ls) c2 (.slice E en ec) (.int .i64 pw) (.int .i64 wi) (.int .i64 ak) (.int .u32 ns) (.slice none 0 0) (.int .i64 rt) (.int .i64 dv) (.int .i64 at')) := hch
      clear hR hS hbel hch
      go_wp2
      go_ret
      exact ⟨rfl, H.out, c2, _, H2.out⟩
    · have hmk := make75 m hm
      have g8 : wc.cell? ⟨w.heap.size, 8, none⟩ = some (.slice none 0 0) := hch.cell 8
      have f8 := hch.frozen 8
      have H : Hid (Below w.heap.size w wc) := hbel
      have H2 : Hid (Ch wc w.heap.size (.bool rec) (.int .u32 ls) c2 (.slice E en ec) (.int .i64 pw) (.int .i64 wi) (.int .i64 ak) (.int .u32 ns) (.slice none 0 0) (.int .i64 rt) (.int .i64 dv) (.int .i64 at')) := hch
      clear hbel hch
      go_wp2
      go_loopw [76] (fun i wr => ∃ k : Nat, k ≤ m ∧ i = .int .i64 k ∧ St w wr wc.heap.size 84 (m * 4) (.bool rec) (.int .u32 ls) c2 (.slice E en ec) (.int .i64 pw) (.int .i64 wi) (.int .i64 ak) (.int .u32 ns) (.slice (some ⟨wc.heap.size, 0, none⟩) m m) (.int .i64 rt) (.int .i64 dv) (.int .i64 at'))
        (fun i _ => m - (intOf i).toNat)
      case atStart =>
        exact ⟨0, Nat.zero_le _, rfl, St.start2 H.out H2.out _ _ (m * 4) 84⟩
      case round =>
        obtain ⟨k, hk, rfl, hst⟩ := hrel
        by_cases hlt : k < m
        · obtain ⟨b, off, rfl, hc⟩ := hS.plain (by omega)
          have hbb : b < w.heap.size := hS.block (by omega)
          have g1 := (hst.below.cell (p := ⟨b, off + k, none⟩) hbb).trans (hc k hlt)
          have g2 : wr.cell? ⟨w.heap.size, 8, none⟩ = some (.slice (some ⟨wc.heap.size, 0, none⟩) m m) := hst.ch.cell 8
          have hi : (k : Int) < (m : Int) := by omega
          obtain ⟨u0, gu0⟩ := hst.blk.cell (i := k * 4) (by omega)
          obtain ⟨u1, gu1⟩ := hst.blk.cell (i := k * 4 + 1) (by omega)
          obtain ⟨u2, gu2⟩ := hst.blk.cell (i := k * 4 + 2) (by omega)
          obtain ⟨u3, gu3⟩ := hst.blk.cell (i := k * 4 + 3) (by omega)
          have f0 := hst.blk.frozen (k * 4)
          have f1 := hst.blk.frozen (k * 4 + 1)
          have f2 := hst.blk.frozen (k * 4 + 2)
          have f3 := hst.blk.frozen (k * 4 + 3)
          have HS : Hid (St w wr wc.heap.size 84 (m * 4) (.bool rec) (.int .u32 ls) c2 (.slice E en ec) (.int .i64 pw) (.int .i64 wi) (.int .i64 ak) (.int .u32 ns) (.slice (some ⟨wc.heap.size, 0, none⟩) m m) (.int .i64 rt) (.int .i64 dv) (.int .i64 at')) := hst
          clear hc hR hst hS g8 f8
          go_wp2
          go_region
          all_goals
            clear gu0 gu1 gu2 gu3 f0 f1 f2 f3 g1 g2
            go_wp2
            go_roundw
            case rel => exact ⟨k + 1, by omega, by go_num, ((((HS.out.set _ _).set _ _).set _ _).set _ _).drew⟩
            case measure => simp [intOf]; omega
        · have HS : Hid (St w wr wc.heap.size 84 (m * 4) (.bool rec) (.int .u32 ls) c2 (.slice E en ec) (.int .i64 pw) (.int .i64 wi) (.int .i64 ak) (.int .u32 ns) (.slice (some ⟨wc.heap.size, 0, none⟩) m m) (.int .i64 rt) (.int .i64 dv) (.int .i64 at')) := hst
          clear hR hst hS
          go_wp2
          go_ret
          exact ⟨rfl, HS.out.below, _, _, HS.out.ch⟩
end Go.Proofs.Qxb6614995a.stop
