import Derived.Test.Qxb6614995aSteps
namespace Go.Proofs.Qxb6614995a.stop
open Go.ChangeShapes Go.WideShapes Go.ChangeAt Go.RowKit

theorem info2 : (Try.prog.info? 2).map (fun i => (i.zero, i.size, i.bytes)) = some (some (.int .i64 0), 1, 8) := by kernel_rfl
theorem info33 : (Try.prog.info? 33).map (fun i => (i.zero, i.size, i.bytes)) = some (some (.int .u32 0), 1, 4) := by kernel_rfl
theorem size2 : (Try.prog.info? 2).map (·.size) = some 1 := by kernel_rfl
theorem size33 : (Try.prog.info? 33).map (·.size) = some 1 := by kernel_rfl

/-- The law's end: true, and nothing that was there has turned. -/
def LawEnd (w : World) (e : Ending) (w' : World) : Prop := e = .returned (.bool true) ∧ Below w.heap.size w w'

theorem oneCell_ints (k : IntKind) (n : Nat) (z : Nat → Int) : ∀ v ∈ (List.range n).map (fun j => Value.int k (z j)), v.oneCell' = true := by
  intro v hv
  obtain ⟨j, _, rfl⟩ := List.mem_map.1 hv
  rfl

theorem copy_src {k : IntKind} {w wx : World} {A : Addr} {n : Nat} {z : Nat → Int} (h : Row k w (some A) n z) (hb : Below w.heap.size w wx) :
    ∀ j v, ((List.range n).map fun j => Value.int k (z j))[j]? = some v → wx.cell? (A.add j) = some v := by
  intro j v hv
  rw [List.getElem?_map] at hv
  obtain ⟨i, hi, rfl⟩ := Option.map_eq_some_iff.1 hv
  obtain ⟨hlt, rfl⟩ := List.getElem?_eq_some_iff.1 hi
  simp at hlt ⊢
  exact cell_later hb (h.2 A rfl j hlt)

/-- 'zzc := make([]T, n); copy(zzc, xs)', xs not nil: the copy's run in the world behind the make. -/
theorem copy_run (k : IntKind) (dT e ot : TypeId) (hu : Try.prog.underlying dT = some (.slice e)) (hsz : (Try.prog.info? e).map (·.size) = some 1) (a : Addr) (n c : Nat) (z : Nat → Int) (w : World) (h : Row k w (some a) n z) :
    ∃ (w2 : World) (v : Value), (Builtin.copy_ #[dT, dT] ot #[.slice (some ⟨w.heap.size, 0, none⟩) n n, .slice (some a) n c]).run Try.prog (w.alloc (.cells (madeCells #[.int k 0] n) e)) = .ok v w2 ∧
      Row k w2 (some ⟨w.heap.size, 0, none⟩) n z ∧ Below w.heap.size w w2 := by
  have hb : Below w.heap.size w (w.alloc (.cells (madeCells #[.int k 0] n) e)) := (Below.refl _ _).alloc (Nat.le_refl _) _
  by_cases h0 : n = 0
  · subst h0
    have hrun := run_copy_none (P := Try.prog) (w.alloc (.cells (madeCells #[.int k 0] 0) e)) dT dT ot e (some ⟨w.heap.size, 0, none⟩) (some a) 0 0 0 c hu hsz rfl
    exact ⟨_, _, hrun, ⟨(fun h => by cases h), fun a' ha c hc => by omega⟩, hb⟩
  · have hg := alloc_at w (.cells (madeCells #[.int k 0] n) e)
    rw [madeCells_list] at hg hb ⊢
    have hrun := run_copy_row (P := Try.prog) (w.alloc (.cells (List.replicate n (.int k 0)).toArray e)) dT dT ot e w.heap.size 0 n n a n c (List.replicate n (.int k 0)).toArray e ((List.range n).map fun j => .int k (z j)) hu hsz hg (by simp) (copy_src h hb) (by simp) (oneCell_ints _ _ _)
    refine ⟨_, _, hrun, row_of_splice (t := e) ?_, below_setRow hb (Nat.le_refl _) _⟩
    simpa [splice] using setRow_heap _ w.heap.size _ _ e _ hg

set_option maxRecDepth 100000 in
set_option maxHeartbeats 4000000 in
theorem law_main (rec : Bool) (ls pw wi ak ns rt dv at' : Int) (A : Option Addr) (na ca : Nat) (E : Option Addr) (n c : Nat) (B : Option Addr) (m d : Nat)
    (F : Nat → Option Addr) (L C : Nat → Nat) (z : Nat → Nat → Int) (za zb : Nat → Int) (w : World) (hF : Frames w E n F L C z) (hR : Row .i64 w A na za) (hS : Row .u32 w B m zb)
    (hA0 : A = none → ca = 0) (hB0 : B = none → d = 0) (hE0 : E = none → c = 0) (hz : Sized na n m L)
    (hs : Calls Try.prog 14 #[.bool rec, .int .u32 ls, .slice A na ca, .slice E n c, .int .i64 pw, .int .i64 wi, .int .i64 ak, .int .u32 ns, .slice B m d, .int .i64 rt, .int .i64 dv, .int .i64 at'] w fun e w' => e = .returned (.bool true) ∧ w = w')
    (h1 : na ≤ 131072) (h2 : m ≤ 262144) (h3 : n ≤ 32768) :
    Calls Try.prog 4 #[.bool rec, .int .u32 ls, .slice A na ca, .slice E n c, .int .i64 pw, .int .i64 wi, .int .i64 ak, .int .u32 ns, .slice B m d, .int .i64 rt, .int .i64 dv, .int .i64 at'] w (LawEnd w) := by
  have q34 : ∀ (w : World) (a : Option Addr) (n c n' c' : Nat), (binOp .neq 34 (.slice a n c) (.slice none n' c')).run Try.prog w = .ok (.bool (!a.isNone)) w := fun w a n c n' c' => run_neq_slice_nil_any w _ _ a n c n' c' Try.underlying34
  have q36 : ∀ (w : World) (a : Option Addr) (n c n' c' : Nat), (binOp .neq 36 (.slice a n c) (.slice none n' c')).run Try.prog w = .ok (.bool (!a.isNone)) w := fun w a n c n' c' => run_neq_slice_nil_any w _ _ a n c n' c' Try.underlying36
  have HS : Hid (Calls Try.prog 14 #[.bool rec, .int .u32 ls, .slice A na ca, .slice E n c, .int .i64 pw, .int .i64 wi, .int .i64 ak, .int .u32 ns, .slice B m d, .int .i64 rt, .int .i64 dv, .int .i64 at'] w fun e w' => e = .returned (.bool true) ∧ w = w') := hs
  have t1 : decide ((131072 : Int) < (na : Int)) = false := decide_eq_false (by omega)
  have t2 : decide ((262144 : Int) < (m : Int)) = false := decide_eq_false (by omega)
  have t3 : decide ((32768 : Int) < (n : Int)) = false := decide_eq_false (by omega)
  have HF : Hid (Frames w E n F L C z) := hF
  have HR : Hid (Row .i64 w A na za) := hR
  have HB : Hid (Row .u32 w B m zb) := hS
  have HA0 : Hid (A = none → ca = 0) := hA0
  have HB0 : Hid (B = none → d = 0) := hB0
  have HE0 : Hid (E = none → c = 0) := hE0
  have HZ : Hid (Sized na n m L) := hz
  clear hs hF hR hS hA0 hB0 hE0 hz
  go_enter Try.func4, Try.ntmps4
  go_upto_if 83 with (go_at_call 14; refine (HS.out).mono ?_; rintro e w' ⟨rfl, rfl⟩)
  clear t1 t2 t3 HS
  go_cut [2] (fun s2 wc => ∃ A1 c1, s2 = .slice A1 na c1 ∧ (A1 = none → c1 = 0) ∧ Row .i64 wc A1 na za ∧ Below w.heap.size w wc)
  case first =>
    rcases A with _ | a
    · obtain rfl := HR.out.1 rfl
      obtain rfl := HA0.out rfl
      go_wp2
      go_meet
      case rel => exact ⟨none, _, rfl, fun _ => rfl, HR.out, Below.refl _ _⟩
    · have hmk := run_make_row' (P := Try.prog) 34 2 (.int .i64 0) 8 Try.underlying34 info2 rfl .i64 .i64 na (by omega) (by omega)
      obtain ⟨w2, v2, hrun, hrow2, hbel2⟩ := copy_run .i64 34 2 3 Try.underlying34 size2 a na ca za w HR.out
      have HR2 : Hid (Row .i64 w2 (some ⟨w.heap.size, 0, none⟩) na za) := hrow2
      have HB2 : Hid (Below w.heap.size w w2) := hbel2
      clear hrow2 hbel2
      go_wp2
      go_meet
      case rel => exact ⟨_, _, rfl, (fun h => by cases h), HR2.out, HB2.out⟩
  case rest =>
    obtain ⟨A1, c1, rfl, hc0, hrow, hbel⟩ := hcut
    have HA1 : Hid (A1 = none → c1 = 0) := hc0
    have HR1 : Hid (Row .i64 wc A1 na za) := hrow
    have HBel : Hid (Below w.heap.size w wc) := hbel
    clear hc0 hrow hbel
    go_upto_if 92 with (fail)
    go_cut [8] (fun s8 wd => ∃ B1 d1, s8 = .slice B1 m d1 ∧ (B1 = none → d1 = 0) ∧ Row .u32 wd B1 m zb ∧ Row .i64 wd A1 na za ∧ Below w.heap.size w wd)
    case first =>
      rcases B with _ | a
      · obtain rfl := HB.out.1 rfl
        obtain rfl := HB0.out rfl
        go_wp2
        go_meet
        case rel => exact ⟨none, _, rfl, fun _ => rfl, HB.out.later HBel.out, HR1.out, HBel.out⟩
      · have hmk := run_make_row' (P := Try.prog) 36 33 (.int .u32 0) 4 Try.underlying36 info33 rfl .i64 .i64 m (by omega) (by omega)
        obtain ⟨w2, v2, hrun, hrow2, hbel2⟩ := copy_run .u32 36 33 3 Try.underlying36 size33 a m d zb wc (HB.out.later HBel.out)
        have HR2 : Hid (Row .u32 w2 (some ⟨wc.heap.size, 0, none⟩) m zb) := hrow2
        have HB2 : Hid (Below wc.heap.size wc w2) := hbel2
        clear hrow2 hbel2
        go_wp2
        go_meet
        case rel => exact ⟨_, _, rfl, (fun h => by cases h), HR2.out, HR1.out.later HB2.out, HBel.out.trans (HB2.out.mono HBel.out.size)⟩
    case rest =>
      clear HR HB HA0 HB0 HR1 HBel
      obtain ⟨B1, d1, rfl, hd0, hrowB, hrowA, hbel⟩ := hcut
      have HB1 : Hid (B1 = none → d1 = 0) := hd0
      have HRB : Hid (Row .u32 wc B1 m zb) := hrowB
      have HRA : Hid (Row .i64 wc A1 na za) := hrowA
      have HBel : Hid (Below w.heap.size w wc) := hbel
      clear hd0 hrowB hrowA hbel
      by_cases h8 : 8 * na + 4 * m + 24 * n ≤ 1048576
      rotate_left
      · have h8' : (1048576 : Int) < 8 * (na : Int) + 4 * (m : Int) + 24 * (n : Int) := by omega
        go_wp2
        go_ret
        exact ⟨rfl, HBel.out⟩
      go_wp2
      go_loop [27, 28] (fun t i => ∃ (k : Nat) (q : Int), k ≤ n ∧ i = .int .i64 k ∧ t = .int .i64 q ∧ 0 ≤ q ∧ q ≤ 1048576) (fun _ i => n - (intOf i).toNat)
      case atStart => exact ⟨0, 8 * (na : Int) + 4 * (m : Int) + 24 * (n : Int), Nat.zero_le _, rfl, rfl, by omega, by omega⟩
      case round =>
        obtain ⟨k, q, hk, rfl, rfl, hq0, hq1⟩ := hrel
        by_cases hlt : k < n
        · rcases E with _ | a
          · have := HF.out.nil rfl
            omega
          obtain ⟨b, off, rfl, hb, hc⟩ := HF.out.plain (by omega)
          have g1 := (HBel.out.cell (p := ⟨b, off + k, none⟩) hb).trans (hc k hlt)
          have hLk := HZ.out.2.2.2 k hlt
          have hi : (k : Int) < (n : Int) := by omega
          clear hc
          by_cases h5 : q + (L k : Int) ≤ 1048576
          · go_wp2
            go_round
            case rel => exact ⟨k + 1, q + L k, by omega, by go_num, rfl, by omega, by omega⟩
            case measure => simp [intOf]; omega
          · have h5' : (1048576 : Int) < q + (L k : Int) := by omega
            go_wp2
            go_ret
            exact ⟨rfl, HBel.out⟩
        · clear hq0 hq1
          go_wp2_with fail
          refine (cloneFrames_any E n c (by omega) HE0.out F L C z _ (HF.out.later HBel.out) HZ.out.2.2.2).mono ?_
          rintro e w1 ⟨v1, rfl, ⟨A2, c3, rfl, hcf1⟩, hb1⟩
          have HC1 : Hid (Cf w1 wc.heap.size (.slice A2 n c3) E n F L z) := ⟨A2, c3, rfl, hcf1⟩
          have HW1 : Hid (Below wc.heap.size wc w1) := hb1
          clear hcf1 hb1
          go_wp2_with fail
          refine (cloneFrames_any E n c (by omega) HE0.out F L C z _ ((HF.out.later HBel.out).later HW1.out) HZ.out.2.2.2).mono ?_
          rintro e w2 ⟨v2, rfl, ⟨A4, c5, rfl, hcf2⟩, hb2⟩
          have HW2 : Hid (Below w1.heap.size w1 w2) := hb2
          clear hcf2 hb2
          go_wp2_with fail
          refine (new_any rec ls pw wi ak ns rt dv at' A2 n c3 A1 na c1 (by omega) HA1.out za B1 m d1 (by omega) HB1.out zb w2 ((HRA.out.later HW1.out).later HW2.out) ((HRB.out.later HW1.out).later HW2.out)).mono ?_
          rintro e w3 ⟨rfl, hb3, p2, p8, hch1⟩
          have HW3 : Hid (Below w2.heap.size w2 w3) := hb3
          have HD1 : Hid (Ch w3 w2.heap.size (.bool rec) (.int .u32 ls) p2 (.slice A2 n c3) (.int .i64 pw) (.int .i64 wi) (.int .i64 ak) (.int .u32 ns) p8 (.int .i64 rt) (.int .i64 dv) (.int .i64 at')) := hch1
          clear hb3 hch1
          go_wp2_with fail
          refine (new_any rec ls pw wi ak ns rt dv at' A4 n c5 none 0 0 (by omega) (fun _ => rfl) za none 0 0 (by omega) (fun _ => rfl) zb w3 ⟨fun _ => rfl, fun _ h => by cases h⟩ ⟨fun _ => rfl, fun _ h => by cases h⟩).mono ?_
          rintro e w4 ⟨rfl, hb4, r2, r8, hch2⟩
          have hlt13 : w2.heap.size < w3.heap.size := HD1.out.lt
          have hx4 : Below w1.heap.size w1 w4 := (HW2.out.trans (HW3.out.mono HW2.out.size)).trans (hb4.mono (Nat.le_trans HW2.out.size HW3.out.size))
          have hle1 : w1.heap.size ≤ w2.heap.size := HW2.out.size
          have hle2 : w1.heap.size ≤ w3.heap.size := Nat.le_trans HW2.out.size HW3.out.size
          have hne1 : w3.heap.size ≠ w2.heap.size := by omega
          have hne2 : w2.heap.size ≠ w3.heap.size := by omega
          have ho4 : Ch w4 w2.heap.size (.bool rec) (.int .u32 ls) p2 (.slice A2 n c3) (.int .i64 pw) (.int .i64 wi) (.int .i64 ak) (.int .u32 ns) p8 (.int .i64 rt) (.int .i64 dv) (.int .i64 at') := HD1.out.of_block (hb4.block _ hlt13)
          have HX4 : Hid (Below w1.heap.size w1 w4) := hx4
          have HP4 : Hid (Ch w4 w2.heap.size (.bool rec) (.int .u32 ls) p2 (.slice A2 n c3) (.int .i64 pw) (.int .i64 wi) (.int .i64 ak) (.int .u32 ns) p8 (.int .i64 rt) (.int .i64 dv) (.int .i64 at')) := ho4
          have HQ4 : Hid (Ch w4 w3.heap.size (.bool rec) (.int .u32 ls) r2 (.slice A4 n c5) (.int .i64 pw) (.int .i64 wi) (.int .i64 ak) (.int .u32 ns) r8 (.int .i64 rt) (.int .i64 dv) (.int .i64 at')) := hch2
          have HN1 : Hid (w3.heap.size ≠ w2.heap.size) := hne1
          have HN2 : Hid (w2.heap.size ≠ w3.heap.size) := hne2
          clear hx4 ho4 hch2 hb4 HD1 hne1 hne2
          go_wp2_with fail
          refine (stop_step w1 w4 w2.heap.size w3.heap.size (.bool rec) (.int .u32 ls) p2 (.slice A2 n c3) (.int .i64 pw) (.int .i64 wi) (.int .i64 ak) (.int .u32 ns) p8 (.int .i64 rt) (.int .i64 dv) (.int .i64 at') (.bool rec) (.int .u32 ls) r2 (.slice A4 n c5) (.int .i64 pw) (.int .i64 wi) (.int .i64 ak) (.int .u32 ns) r8 (.int .i64 rt) (.int .i64 dv) (.int .i64 at') HX4.out HP4.out HQ4.out hle1 HN1.out).mono ?_
          rintro e w5 ⟨rfl, hx5, hp5, hq5⟩
          have HX5 : Hid (Below w1.heap.size w1 w5) := hx5
          have HP5 : Hid (Ch w5 w2.heap.size (.bool rec) (.int .u32 ls) (.slice none 0 0) (.slice A2 n c3) (.int .i64 pw) (.int .i64 wi) (.int .i64 ak) (.int .u32 ns) (.slice none 0 0) (.int .i64 rt) (.int .i64 dv) (.int .i64 at')) := hp5
          have HQ5 : Hid (Ch w5 w3.heap.size (.bool rec) (.int .u32 ls) r2 (.slice A4 n c5) (.int .i64 pw) (.int .i64 wi) (.int .i64 ak) (.int .u32 ns) r8 (.int .i64 rt) (.int .i64 dv) (.int .i64 at')) := hq5
          clear hx5 hp5 hq5
          go_wp2_with fail
          refine (stop_step w1 w5 w3.heap.size w2.heap.size (.bool rec) (.int .u32 ls) r2 (.slice A4 n c5) (.int .i64 pw) (.int .i64 wi) (.int .i64 ak) (.int .u32 ns) r8 (.int .i64 rt) (.int .i64 dv) (.int .i64 at') (.bool rec) (.int .u32 ls) (.slice none 0 0) (.slice A2 n c3) (.int .i64 pw) (.int .i64 wi) (.int .i64 ak) (.int .u32 ns) (.slice none 0 0) (.int .i64 rt) (.int .i64 dv) (.int .i64 at') HX5.out HQ5.out HP5.out hle2 HN2.out).mono ?_
          rintro e w6 ⟨rfl, hx6, hq6, hp6⟩
          have HX6 : Hid (Below w1.heap.size w1 w6) := hx6
          have HP6 : Hid (Ch w6 w2.heap.size (.bool rec) (.int .u32 ls) (.slice none 0 0) (.slice A2 n c3) (.int .i64 pw) (.int .i64 wi) (.int .i64 ak) (.int .u32 ns) (.slice none 0 0) (.int .i64 rt) (.int .i64 dv) (.int .i64 at')) := hp6
          have HQ6 : Hid (Ch w6 w3.heap.size (.bool rec) (.int .u32 ls) (.slice none 0 0) (.slice A4 n c5) (.int .i64 pw) (.int .i64 wi) (.int .i64 ak) (.int .u32 ns) (.slice none 0 0) (.int .i64 rt) (.int .i64 dv) (.int .i64 at')) := hq6
          clear hx6 hp6 hq6
          go_wp2_with fail
          refine (waits_step w1 w6 w2.heap.size w3.heap.size (.bool rec) (.int .u32 ls) (.slice A2 n c3) (.int .i64 pw) (.int .i64 wi) (.int .i64 ak) (.int .u32 ns) (.int .i64 rt) (.int .i64 dv) (.int .i64 at') (.bool rec) (.int .u32 ls) (.slice none 0 0) (.slice A4 n c5) (.int .i64 pw) (.int .i64 wi) (.int .i64 ak) (.int .u32 ns) (.slice none 0 0) (.int .i64 rt) (.int .i64 dv) (.int .i64 at') HX6.out HP6.out HQ6.out).mono ?_
          rintro e w7 ⟨rfl, hx7, hp7, hq7⟩
          have HX7 : Hid (Below w1.heap.size w1 w7) := hx7
          have HP7 : Hid (Ch w7 w2.heap.size (.bool rec) (.int .u32 ls) (.slice none 0 0) (.slice A2 n c3) (.int .i64 pw) (.int .i64 wi) (.int .i64 ak) (.int .u32 ns) (.slice none 0 0) (.int .i64 rt) (.int .i64 dv) (.int .i64 at')) := hp7
          have HQ7 : Hid (Ch w7 w3.heap.size (.bool rec) (.int .u32 ls) (.slice none 0 0) (.slice A4 n c5) (.int .i64 pw) (.int .i64 wi) (.int .i64 ak) (.int .u32 ns) (.slice none 0 0) (.int .i64 rt) (.int .i64 dv) (.int .i64 at')) := hq7
          clear hx7 hp7 hq7
          go_wp2_with fail
          refine (stop_step w1 w7 w2.heap.size w3.heap.size (.bool rec) (.int .u32 ls) (.slice none 0 0) (.slice A2 n c3) (.int .i64 pw) (.int .i64 wi) (.int .i64 ak) (.int .u32 ns) (.slice none 0 0) (.int .i64 rt) (.int .i64 dv) (.int .i64 at') (.bool rec) (.int .u32 ls) (.slice none 0 0) (.slice A4 n c5) (.int .i64 pw) (.int .i64 wi) (.int .i64 ak) (.int .u32 ns) (.slice none 0 0) (.int .i64 rt) (.int .i64 dv) (.int .i64 at') HX7.out HP7.out HQ7.out hle1 HN1.out).mono ?_
          rintro e w8 ⟨rfl, hx8, hp8, hq8⟩
          have HX8 : Hid (Below w1.heap.size w1 w8) := hx8
          have HP8 : Hid (Ch w8 w2.heap.size (.bool rec) (.int .u32 ls) (.slice none 0 0) (.slice A2 n c3) (.int .i64 pw) (.int .i64 wi) (.int .i64 ak) (.int .u32 ns) (.slice none 0 0) (.int .i64 rt) (.int .i64 dv) (.int .i64 at')) := hp8
          have HQ8 : Hid (Ch w8 w3.heap.size (.bool rec) (.int .u32 ls) (.slice none 0 0) (.slice A4 n c5) (.int .i64 pw) (.int .i64 wi) (.int .i64 ak) (.int .u32 ns) (.slice none 0 0) (.int .i64 rt) (.int .i64 dv) (.int .i64 at')) := hq8
          clear hx8 hp8 hq8
          go_wp2_with fail
          refine (waits_step w1 w8 w2.heap.size w3.heap.size (.bool rec) (.int .u32 ls) (.slice A2 n c3) (.int .i64 pw) (.int .i64 wi) (.int .i64 ak) (.int .u32 ns) (.int .i64 rt) (.int .i64 dv) (.int .i64 at') (.bool rec) (.int .u32 ls) (.slice none 0 0) (.slice A4 n c5) (.int .i64 pw) (.int .i64 wi) (.int .i64 ak) (.int .u32 ns) (.slice none 0 0) (.int .i64 rt) (.int .i64 dv) (.int .i64 at') HX8.out HP8.out HQ8.out).mono ?_
          rintro e w9 ⟨rfl, hx9, hp9, hq9⟩
          have HX9 : Hid (Below w1.heap.size w1 w9) := hx9
          have HP9 : Hid (Ch w9 w2.heap.size (.bool rec) (.int .u32 ls) (.slice none 0 0) (.slice A2 n c3) (.int .i64 pw) (.int .i64 wi) (.int .i64 ak) (.int .u32 ns) (.slice none 0 0) (.int .i64 rt) (.int .i64 dv) (.int .i64 at')) := hp9
          have HQ9 : Hid (Ch w9 w3.heap.size (.bool rec) (.int .u32 ls) (.slice none 0 0) (.slice A4 n c5) (.int .i64 pw) (.int .i64 wi) (.int .i64 ak) (.int .u32 ns) (.slice none 0 0) (.int .i64 rt) (.int .i64 dv) (.int .i64 at')) := hq9
          clear hx9 hp9 hq9
          go_wp2_with fail
          refine (waits_step w1 w9 w3.heap.size w2.heap.size (.bool rec) (.int .u32 ls) (.slice A4 n c5) (.int .i64 pw) (.int .i64 wi) (.int .i64 ak) (.int .u32 ns) (.int .i64 rt) (.int .i64 dv) (.int .i64 at') (.bool rec) (.int .u32 ls) (.slice none 0 0) (.slice A2 n c3) (.int .i64 pw) (.int .i64 wi) (.int .i64 ak) (.int .u32 ns) (.slice none 0 0) (.int .i64 rt) (.int .i64 dv) (.int .i64 at') HX9.out HQ9.out HP9.out).mono ?_
          rintro e w10 ⟨rfl, hx10, hq10, hp10⟩
          have HX10 : Hid (Below w1.heap.size w1 w10) := hx10
          have HP10 : Hid (Ch w10 w2.heap.size (.bool rec) (.int .u32 ls) (.slice none 0 0) (.slice A2 n c3) (.int .i64 pw) (.int .i64 wi) (.int .i64 ak) (.int .u32 ns) (.slice none 0 0) (.int .i64 rt) (.int .i64 dv) (.int .i64 at')) := hp10
          clear hx10 hp10 hq10
          go_wp2_with fail
          refine (rest_step w1 w10 w2.heap.size rec ls pw wi ak ns rt dv at' A2 n c3 (.slice none 0 0) (.slice none 0 0) HX10.out HP10.out).mono ?_
          rintro e w11 ⟨rfl, hx11⟩
          have HX11 : Hid (Below w1.heap.size w1 w11) := hx11
          clear hx11
          go_wp2_with fail
          refine (framesEqual_any _ wc.heap.size E n c (by omega) F L C z w11 (HC1.out.kept (fun g _ h => HX11.out.block g h)) (((HF.out.later HBel.out).later HW1.out).later HX11.out) HZ.out.2.2.2).mono ?_
          rintro e w12 ⟨rfl, nd, rfl⟩
          go_wp2
          go_ret
          exact ⟨rfl, below_draws ((HBel.out.trans (HW1.out.mono HBel.out.size)).trans (HX11.out.mono (Nat.le_trans HBel.out.size HW1.out.size))) nd⟩
end Go.Proofs.Qxb6614995a.stop
