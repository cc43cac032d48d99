/-
  THE SHELL OF A PROOF OF 'Rows.FnStopForgetsWaitsKeepsRestSaid' ('example.com/culvert/culvert/zzlaws_internal_pptp_b1.FnStopForgetsWaitsKeepsRest'), WRITTEN BY PROGRAM (proof-skeleton.mjs, third state) off the guide's own print for that function. Not trusted: the kernel checks it.
  The frame is the tool's, the third argument's opening ([][]byte) by Derived/Deep/Matrix.lean; the walks lie in the texts that it imports.
-/
import Derived.Test.Qxb6614995aRows
import Derived.WalkKit
import Derived.ProofKit
import Derived.OpenShut
import Derived.ShutString
import Derived.ChangeOld
import Derived.Below
import Derived.Deep.Matrix
import Derived.Test.Qxb6614995aEnds
namespace Go.Proofs.Qxb6614995a.fnStopForgetsWaitsKeepsRest
open Go.ChangeShapes Go.WideShapes Go.ChangeAt Go.RowKit
set_option linter.unusedVariables false

theorem own : ownKnob Try.prog.godebug = none := by kernel_rfl
theorem laidOut : laidOutB Try.prog = true := by kernel_rfl

/-- WHAT THE WALK IS TOLD OF A SLICE OF INTEGERS THAT CAME IN: it is nil; or it leads to a row of 'cap' cells, the numbers 'zs' (the first 'len' are its elements, the rest its spare room), each fitting its kind. -/
def IsRow (k : IntKind) (w : World) (a : Option Addr) (len cap : Nat) (zs : List Int) : Prop :=
  (a = none ∧ len = 0 ∧ cap = 0 ∧ zs = []) ∨
  ∃ x, a = some x ∧ len ≤ cap ∧ cap ≤ maxLen ∧ zs.length = cap ∧ (∀ i, i < zs.length → w.cell? (x.add i) = some (.int k (zs.getD i 0))) ∧ ∀ n ∈ zs, (Lit.int k n).wf = true

theorem isRow_row {k : IntKind} {w : World} {a : Option Addr} {len cap : Nat} {zs : List Int} (h : IsRow k w a len cap zs) : stop.Row k w a len (fun i => zs.getD i 0) ∧ (a = none → cap = 0) ∧ len ≤ maxLen := by
  rcases h with ⟨rfl, rfl, rfl, rfl⟩ | ⟨x, rfl, hl, hm, hz, hc, _⟩
  · exact ⟨⟨fun _ => rfl, fun _ h => by cases h⟩, fun _ => rfl, Nat.zero_le _⟩
  · refine ⟨⟨(fun h => by cases h), fun a ha c hcl => ?_⟩, (fun h => by cases h), by omega⟩
    cases ha
    exact hc c (by omega)

/-- What the walk is told of the slice of slices of bytes. -/
def IsFrames (w : World) (a : Option Addr) (len cap : Nat) : Prop :=
  (a = none → cap = 0) ∧ len ≤ maxLen ∧ ∃ (F : Nat → Option Addr) (L C : Nat → Nat) (z : Nat → Nat → Int), stop.Frames w a len F L C z ∧ ∀ r, r < len → L r ≤ maxLen

theorem walk (a0 : Bool) (a1 : Int) (a2 : Option Addr) (len2 cap2 : Nat) (z2 : List Int) (a3 : Option Addr) (len3 cap3 : Nat) (a4 : Int) (a5 : Int) (a6 : Int) (a7 : Int) (a8 : Option Addr) (len8 cap8 : Nat) (z8 : List Int) (a9 : Int) (a10 : Int) (a11 : Int) (w : World) (w2 : IsRow .i64 w a2 len2 cap2 z2) (w3 : IsFrames w a3 len3 cap3) (w8 : IsRow .u32 w a8 len8 cap8 z8) :
    Calls Try.prog 4 #[.bool a0, .int .u32 a1, .slice a2 len2 cap2, .slice a3 len3 cap3, .int .i64 a4, .int .i64 a5, .int .i64 a6, .int .u32 a7, .slice a8 len8 cap8, .int .i64 a9, .int .i64 a10, .int .i64 a11] w fun e w' => e = .returned (.bool true) ∧ Below w.heap.size w w' := by
  obtain ⟨r2, c2, l2⟩ := isRow_row w2
  obtain ⟨r8, c8, l8⟩ := isRow_row w8
  obtain ⟨c3, l3, F, L, C, z, hF, hL⟩ := w3
  exact stop.law_any a0 a1 a4 a5 a6 a7 a9 a10 a11 a2 len2 cap2 a3 len3 cap3 a8 len8 cap8 l2 l3 l8 F L C hL z _ _ w hF r2 r8 c2 c8 c3

/-! ### THE ROW's STEP: WRITTEN OUT: LEAVE IT -/
set_option maxRecDepth 100000 in
theorem lifted (os : Os) (started : os.Started) (H : Type) (enc : TypeId × Value → H) :
    ReturnsInHanded {} Try.checked os 4 .any (Rows.fnStopForgetsWaitsKeepsRestSpec.pre6 enc Try.prog Try.f4 Rows.fnStopForgetsWaitsKeepsRestRow.domain false) (Rows.fnStopForgetsWaitsKeepsRestSpec.post enc Try.prog Try.f4 false true false false) := by
  refine returnsInHanded_of_change (C := Try.checked) own started (by kernel_rfl) Try.func4
    (ChangeSpec.witness6 (enc := enc) (C := Try.checked) false ⟨#[], #[.bool false, .int .u32 0, .slice none 0 0, .slice none 0 0, .int .i64 0, .int .i64 0, .int .i64 0, .int .u32 0, .slice none 0 0, .int .i64 0, .int .i64 0, .int .i64 0], []⟩ 8 (by kernel_rfl) (by kernel_rfl) (by kernel_rfl) (by kernel_rfl)) ?_
  intro W base args ds gs before hval0 hW hcnd _
  have hval : ∀ (j : Nat) t v, Try.f4.params[j]? = some t → args[j]? = some v → Value.okWide Try.prog W .any base t v := hval0
  have hW' := hW
  obtain ⟨p, q, hA0, hV, rfl, hfz, hnd⟩ := hW
  have hA : DataW.TrodAll enc Try.prog W 0 (fun _ => true) true Try.f4.params.toList args.toList ds p := hA0
  rw [Try.params4] at hA hval
  obtain ⟨v0, vs0, d0, ds0, p0, q0, hargs, rfl, rfl, h0, r0⟩ := trodAll_cons hA
  obtain ⟨v1, vs1, d1, ds1, p1, q1, rfl, rfl, rfl, h1, r1⟩ := trodAll_cons r0
  obtain ⟨v2, vs2, d2, ds2, p2, q2, rfl, rfl, rfl, h2, r2⟩ := trodAll_cons r1
  obtain ⟨v3, vs3, d3, ds3, p3, q3, rfl, rfl, rfl, h3, r3⟩ := trodAll_cons r2
  obtain ⟨v4, vs4, d4, ds4, p4, q4, rfl, rfl, rfl, h4, r4⟩ := trodAll_cons r3
  obtain ⟨v5, vs5, d5, ds5, p5, q5, rfl, rfl, rfl, h5, r5⟩ := trodAll_cons r4
  obtain ⟨v6, vs6, d6, ds6, p6, q6, rfl, rfl, rfl, h6, r6⟩ := trodAll_cons r5
  obtain ⟨v7, vs7, d7, ds7, p7, q7, rfl, rfl, rfl, h7, r7⟩ := trodAll_cons r6
  obtain ⟨v8, vs8, d8, ds8, p8, q8, rfl, rfl, rfl, h8, r8⟩ := trodAll_cons r7
  obtain ⟨v9, vs9, d9, ds9, p9, q9, rfl, rfl, rfl, h9, r9⟩ := trodAll_cons r8
  obtain ⟨v10, vs10, d10, ds10, p10, q10, rfl, rfl, rfl, h10, r10⟩ := trodAll_cons r9
  obtain ⟨v11, vs11, d11, ds11, p11, q11, rfl, rfl, rfl, h11, r11⟩ := trodAll_cons r10
  obtain ⟨rfl, rfl, rfl⟩ := trodAll_nil r11
  obtain rfl : args = #[v0, v1, v2, v3, v4, v5, v6, v7, v8, v9, v10, v11] := by cases args; simp_all
  obtain ⟨rfl, rfl⟩ := trodVars_none hV
  obtain ⟨a0, rfl, rfl, rfl⟩ := open_bool Try.underlying4 (hval 0 4 v0 rfl rfl) h0
  obtain ⟨a1, rfl, rfl, rfl, w1⟩ := open_int Try.underlying33 (hval 1 33 v1 rfl rfl) h1
  obtain ⟨a2, len2, cap2, rfl⟩ := okWide_slice Try.underlying34 (hval 2 34 v2 rfl rfl)
  have k2 := h2
  have lt2 : ∀ x ∈ p2, x.block < W.heap.size := by obtain ⟨m, hm⟩ := k2; exact DataW.trod_lt m _ _ _ hm
  obtain ⟨z2, w2⟩ : ∃ zs, IsRow .i64 W a2 len2 cap2 zs := by
    obtain ⟨fuel, hf⟩ := h2
    rcases open_ints Try.underlying34 Try.underlying2 (by kernel_rfl) hf with ⟨hcs, _⟩ | ⟨x, l, c, zs, hcs, _, hl, hm, hz, _, hcell, hwz⟩
    · simp [Value.cells] at hcs
      obtain ⟨rfl, rfl, rfl⟩ := hcs
      exact ⟨[], .inl ⟨rfl, rfl, rfl, rfl⟩⟩
    · simp [Value.cells] at hcs
      obtain ⟨rfl, rfl, rfl⟩ := hcs
      exact ⟨zs, .inr ⟨_, rfl, hl, hm, by simpa using hz, hcell, hwz⟩⟩
  obtain ⟨a3, len3, cap3, rfl⟩ := okWide_slice Try.underlying35 (hval 3 35 v3 rfl rfl)
  have k3 := h3
  have lt3 : ∀ x ∈ p3, x.block < W.heap.size := by obtain ⟨m, hm⟩ := k3; exact DataW.trod_lt m _ _ _ hm
  have w3 : IsFrames W a3 len3 cap3 := by
    obtain ⟨fuel, hf⟩ := h3
    rcases Go.Deep.open_int_rows Try.underlying35 Try.underlying38 Try.underlying5 (by kernel_rfl) (by kernel_rfl) hf with ⟨hcs, _⟩ | ⟨x, l, c, F, L, C, Z, hcs, _, hl, hm, _, hrow⟩
    · simp [Value.cells] at hcs
      obtain ⟨rfl, rfl, rfl⟩ := hcs
      exact ⟨fun _ => rfl, Nat.zero_le _, fun _ => none, fun _ => 0, fun _ => 0, fun _ _ => 0, ⟨fun _ => rfl, (fun _ h => by cases h), (fun r hr => by omega), fun r hr => by omega⟩, fun r hr => by omega⟩
    · simp [Value.cells] at hcs
      obtain ⟨rfl, rfl, rfl⟩ := hcs
      refine ⟨(fun h => by cases h), by omega, F, L, C, fun r i => (Z r).getD i 0, ⟨(fun h => by cases h), fun a ha r hr => ?_, fun r hr ha => (hrow r (by omega)).2.2.2.2.2.1 ha, fun r hr => ⟨fun ha => ?_, fun a' ha' i hi => ?_⟩⟩, fun r hr => ?_⟩
      · cases ha
        exact (hrow r (by omega)).1
      · have h1 := (hrow r (by omega)).2.2.2.2.2.1 ha
        have h2 := (hrow r (by omega)).2.1
        omega
      · have h2 := (hrow r (by omega)).2.1
        exact ((hrow r (by omega)).2.2.2.2.2.2 a' ha').2 i (by omega)
      · have h2 := (hrow r (by omega)).2.1
        have h3 := (hrow r (by omega)).2.2.1
        omega
  obtain ⟨a4, rfl, rfl, rfl, w4⟩ := open_int Try.underlying3 (hval 4 3 v4 rfl rfl) h4
  obtain ⟨a5, rfl, rfl, rfl, w5⟩ := open_int Try.underlying3 (hval 5 3 v5 rfl rfl) h5
  obtain ⟨a6, rfl, rfl, rfl, w6⟩ := open_int Try.underlying3 (hval 6 3 v6 rfl rfl) h6
  obtain ⟨a7, rfl, rfl, rfl, w7⟩ := open_int Try.underlying33 (hval 7 33 v7 rfl rfl) h7
  obtain ⟨a8, len8, cap8, rfl⟩ := okWide_slice Try.underlying36 (hval 8 36 v8 rfl rfl)
  have k8 := h8
  have lt8 : ∀ x ∈ p8, x.block < W.heap.size := by obtain ⟨m, hm⟩ := k8; exact DataW.trod_lt m _ _ _ hm
  obtain ⟨z8, w8⟩ : ∃ zs, IsRow .u32 W a8 len8 cap8 zs := by
    obtain ⟨fuel, hf⟩ := h8
    rcases open_ints Try.underlying36 Try.underlying33 (by kernel_rfl) hf with ⟨hcs, _⟩ | ⟨x, l, c, zs, hcs, _, hl, hm, hz, _, hcell, hwz⟩
    · simp [Value.cells] at hcs
      obtain ⟨rfl, rfl, rfl⟩ := hcs
      exact ⟨[], .inl ⟨rfl, rfl, rfl, rfl⟩⟩
    · simp [Value.cells] at hcs
      obtain ⟨rfl, rfl, rfl⟩ := hcs
      exact ⟨zs, .inr ⟨_, rfl, hl, hm, by simpa using hz, hcell, hwz⟩⟩
  obtain ⟨a9, rfl, rfl, rfl, w9⟩ := open_int Try.underlying2 (hval 9 2 v9 rfl rfl) h9
  obtain ⟨a10, rfl, rfl, rfl, w10⟩ := open_int Try.underlying2 (hval 10 2 v10 rfl rfl) h10
  obtain ⟨a11, rfl, rfl, rfl, w11⟩ := open_int Try.underlying2 (hval 11 2 v11 rfl rfl) h11
  clear hA0 hval0
  refine (walk a0 a1 a2 len2 cap2 z2 a3 len3 cap3 a4 a5 a6 a7 a8 len8 cap8 z8 a9 a10 a11 W w2 w3 w8).mono fun e W' ⟨he, bel⟩ => ?_
  subst he
  exact ⟨_, rfl, _, _, _, [], _, [], hW', trodAll_mk1 (shut_bool Try.underlying4 _), (trodAll_cons_mk (shut_bool Try.underlying4 _) (trodAll_cons_mk (shut_int Try.underlying33 w1) (trodAll_cons_mk (Below.trod laidOut (by kernel_rfl) (of_decide_eq_true (by kernel_rfl)) k2 bel lt2) (trodAll_cons_mk (Below.trod laidOut (by kernel_rfl) (of_decide_eq_true (by kernel_rfl)) k3 bel lt3) (trodAll_cons_mk (shut_int Try.underlying3 w4) (trodAll_cons_mk (shut_int Try.underlying3 w5) (trodAll_cons_mk (shut_int Try.underlying3 w6) (trodAll_cons_mk (shut_int Try.underlying33 w7) (trodAll_cons_mk (Below.trod laidOut (by kernel_rfl) (of_decide_eq_true (by kernel_rfl)) k8 bel lt8) (trodAll_cons_mk (shut_int Try.underlying2 w9) (trodAll_cons_mk (shut_int Try.underlying2 w10) (trodAll_cons_mk (shut_int Try.underlying2 w11) trodAll_mk0)))))))))))), rfl, bel.frame _, fun h => by cases h⟩

theorem over : Rows.fnStopForgetsWaitsKeepsRestRow.holds Try.pinned (OpenSpec.ofChange Rows.fnStopForgetsWaitsKeepsRestSpec) :=
  OpenClaim.holds_of_wide 4 Try.f4 rfl rfl rfl rfl rfl rfl rfl ⟨rfl, rfl, rfl, rfl, rfl⟩ rfl rfl rfl rfl rfl (by kernel_rfl) Try.func4 (by kernel_rfl)
    (of_decide_eq_true (by kernel_rfl)) (by unfold Func.isWrapper; first | (rw [if_pos (by decide +kernel)]; kernel_rfl) | (rw [if_neg (by decide +kernel)]; exact ⟨rfl, rfl⟩))
    (fun os started H enc _ => lifted os started H enc)

/-- ████ THE STATEMENT ████ -/
theorem proved : Rows.FnStopForgetsWaitsKeepsRestSaid := over
end Go.Proofs.Qxb6614995a.fnStopForgetsWaitsKeepsRest
