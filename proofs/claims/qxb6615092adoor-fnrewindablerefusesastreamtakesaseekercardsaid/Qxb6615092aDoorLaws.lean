import Derived.Test.Qxb6615092aDoorRead
namespace Go.Proofs.Qxb6615092aDoor.rew
open Go.ChangeShapes Go.WideShapes Go.ChangeAt Go.RowKit

theorem info22 : (Tryd.prog.info? 22).map (fun i => (i.zero, i.size, i.bytes)) = some (some (.slice none 0 0), 1, 24) := by kernel_rfl

theorem make22 (w : World) : (Instr.makeSlice 22 (.int .i64 0) (.int .i64 512)).run Tryd.prog w = .ok (.slice (some ⟨w.heap.size, 0, none⟩) 0 512) (w.alloc (.cells (madeCells #[.int .u8 0] 512) 5)) := by
  obtain ⟨i0, hi, hz0, hz1, hz2⟩ := info_parts info5
  have hr := run_make (P := Tryd.prog) w 22 5 i0 _ Tryd.underlying22 hi hz0 .i64 .i64 0 512 (by omega) (by omega) (by rw [hz2]; omega) (by omega)
  rw [hz1] at hr
  exact hr
theorem make69 (w : World) : (Instr.makeSlice 69 (.int .i64 0) (.int .i64 4)).run Tryd.prog w = .ok (.slice (some ⟨w.heap.size, 0, none⟩) 0 4) (w.alloc (.cells (madeCells #[.slice none 0 0] 4) 22)) := by
  obtain ⟨i0, hi, hz0, hz1, hz2⟩ := info_parts info22
  have hr := run_make (P := Tryd.prog) w 69 22 i0 _ Tryd.underlying69 hi hz0 .i64 .i64 0 4 (by omega) (by omega) (by rw [hz2]; omega) (by omega)
  rw [hz1] at hr
  exact hr

theorem byts_zero (w : World) (l : List Value) (n : Nat) (hl : l.length = n) (h : ∀ v ∈ l, ∃ z, v = .int .u8 z) : Byts (w.alloc (.cells l.toArray 5)) w.heap.size n := ⟨l, alloc_at _ _, hl, h⟩

theorem byts_made (w : World) (n : Nat) : Byts (w.alloc (.cells (madeCells #[.int .u8 0] n) 5)) w.heap.size n := by
  refine ⟨(madeCells #[.int .u8 0] n).toList, by simpa using alloc_at w (.cells (madeCells #[.int .u8 0] n) 5), by simp [madeCells], fun v hv => ?_⟩
  simp only [madeCells] at hv
  simp at hv
  obtain ⟨i, _, rfl⟩ := hv
  exact ⟨0, by simp [Nat.mod_one]⟩

theorem zeros_row (q : Nat) : Array.map (fun i => (Value.int IntKind.u8 0).cells[i % (Value.int IntKind.u8 0).cells.size]!) (Array.range (q * (Value.int IntKind.u8 0).cells.size)) = Array.replicate q (Value.int .u8 0) := by
  have hc : (Value.int .u8 0).cells = #[.int .u8 0] := rfl
  rw [hc]
  apply Array.ext
  · simp
  · intro i h1 h2
    simp [Nat.mod_one]

/-- 'append([]byte(nil), make([]byte, n)...)': a new row of n zero bytes or more. -/
theorem run_append_make (ty n : Nat) (h1 : 1 ≤ n) (h2 : n ≤ 16777216) (w : World) :
    ∃ cap w', n ≤ cap ∧ cap ≤ maxLen ∧ (Builtin.append_ #[22, 3] ty #[.slice none 0 0, .int .i64 (n : Int)]).run Tryd.prog w = .ok (.slice (some ⟨w.heap.size, 0, none⟩) n cap) w' ∧ Below w.heap.size w w' ∧ Byts w' w.heap.size cap := by
  obtain ⟨i0, hi, hz0, hz1, hz2⟩ := info_parts info5
  have hge := grownCap_ge w n 0 5
  have hle : grownCap w n 0 5 ≤ maxLen := grownCap_le_maxLen w n 0 5 (by unfold maxLen; omega)
  have hw : IntKind.i64.wrap (n : Int) = n := by rw [IntKind.wrap_i64]; omega
  have hn : n ≠ 0 := by omega
  have h0' : ¬ ((n : Int) < 0) := by omega
  have h48 : ¬ (281474976710656 < (n : Int)) := by omega
  have h63' : ¬ (9223372036854775807 < (n : Int)) := by omega
  have h48' : ¬ (281474976710656 < Builtin.nextslicecap n 0) := by rw [nextslicecap_zero (by omega)]; omega
  refine ⟨grownCap w n 0 5, w.drew.alloc (.cells ((List.replicate (grownCap w n 0 5) (Value.int .u8 0)).toArray) 5), hge, hle, ?_, ((Below.refl w.heap.size w).drew).alloc (Nat.le_refl _) _, byts_zero w.drew _ _ (by simp) (fun v hv => ⟨0, List.eq_of_mem_replicate hv⟩)⟩
  simp [Builtin.append_, run_underlying Tryd.underlying22, run_underlying Tryd.underlying3, sizeOf, typeInfo, zeroValue, hi, hz0, hz1, hz2, hw, hn, h0', h48, h63', h48', Question.forced, run_firstCells_none, newRow, grownCap, Builtin.zeroCells, asInt, asIntOf]
  rw [zeros_row, zeros_row]
  unfold grownCap at hge
  rw [Array.replicate_append_replicate, Nat.add_sub_cancel' hge]

/-- The same as a law for the walk. -/
theorem wpList_append_make (w : World) {ops : Array Oper} {rest : List Oper} {o : Oper} {a : Act} {Q : Exit → Act → World → Prop} (hgd : o.guard = none) (s x : Operand)
    (ho : o.op = .call { callee := .builtin .append, args := #[s, x], argTypes := #[22, 3] }) (n : Nat) (X : Int) (hs : a.eval s = .slice none 0 0) (hx : a.eval x = .int .i64 X) (hX : X = (n : Int)) (h1 : 1 ≤ n) (h2 : n ≤ 16777216)
    (h : ∀ cap w', n ≤ cap → cap ≤ maxLen → Below w.heap.size w w' → Byts w' w.heap.size cap → wpList Tryd.prog ops Q rest (a.put o.dst (.slice (some ⟨w.heap.size, 0, none⟩) n cap)) w') : wpList Tryd.prog ops Q (o :: rest) a w := by
  subst hX
  refine wpList_plain hgd fun K hK => ?_
  obtain ⟨cap, w', e1, e2, hr, e3, e4⟩ := run_append_make o.type n h1 h2 w
  unfold Oper.wp execOp
  simp only [ho, resolve, invoke, builtin, Sem.run_bind, Sem.run_pure, Result.andThen_ok, List.map_toArray, List.map_cons, List.map_nil, hs, hx, hr]
  exact hK _ _ (h cap w' e1 e2 e3 e4)

/-! ### What the loop of 'io.ReadAll' holds -/
def lenV : Value → Nat
  | .slice _ n _ => n
  | _ => 0
def total (cs : List Value) : Nat := (cs.map lenV).sum
theorem total_snoc (cs : List Value) (v : Value) : total (cs ++ [v]) = total cs + lenV v := by simp [total]
theorem total_take_succ (cs : List Value) (j : Nat) (h : j < cs.length) : total (cs.take (j + 1)) = total (cs.take j) + lenV cs[j] := by
  rw [List.take_succ_eq_append_getElem h, total_snoc]
theorem total_take_le (cs : List Value) (j : Nat) : total (cs.take j) ≤ total cs := by
  have h : total cs = total (cs.take j) + total (cs.drop j) := by
    unfold total
    rw [← List.sum_append, ← List.map_append, List.take_append_drop]
  omega

def IsChunk (w : World) (v : Value) : Prop := ∃ g L cap, v = .slice (some ⟨g, 0, none⟩) L cap ∧ L ≤ cap ∧ Byts w g cap

/-- The array of the chunks: a row of slices of its own. -/
def Row22 (w : World) (N g cap : Nat) (cs : List Value) : Prop := N ≤ g ∧ cs.length ≤ cap ∧ cap ≤ maxLen ∧ ∃ cur : Array Value, w.heap[g]? = some (.cells cur 22 (0, 0)) ∧ cur.size = cap ∧ cur.toList.take cs.length = cs

theorem Row22.own {w : World} {N g cap : Nat} {cs : List Value} (h : Row22 w N g cap cs) : w.ownsRow N 22 1 (.slice (some ⟨g, 0, none⟩) cs.length cap) cs.length cs := by
  obtain ⟨h1, h2, h3, cur, h4, h5, h6⟩ := h
  exact ⟨by simp, .inr ⟨g, cap, cur, rfl, h1, h4, h2, h3, by simpa using h5, by simpa using h6⟩⟩
theorem Row22.of_own {w : World} {N : Nat} {v : Value} {cs : List Value} (h : w.ownsRow N 22 1 v cs.length cs) (hne : cs ≠ []) : ∃ g cap, v = .slice (some ⟨g, 0, none⟩) cs.length cap ∧ Row22 w N g cap cs := by
  rcases h.2 with ⟨_, h0⟩ | ⟨g, cap, cur, rfl, h1, h4, h2, h3, h5, h6⟩
  · exact absurd (List.eq_nil_of_length_eq_zero h0) hne
  · exact ⟨g, cap, rfl, h1, h2, h3, cur, h4, by simpa using h5, by simpa using h6⟩
theorem Row22.of_block {w w' : World} {N g cap : Nat} {cs : List Value} (h : Row22 w N g cap cs) (e : w'.heap[g]? = w.heap[g]?) : Row22 w' N g cap cs := by
  obtain ⟨h1, h2, h3, cur, h4, h5, h6⟩ := h
  exact ⟨h1, h2, h3, cur, e.trans h4, h5, h6⟩
theorem Row22.lt {w : World} {N g cap : Nat} {cs : List Value} (h : Row22 w N g cap cs) : g < w.heap.size := by
  obtain ⟨h1, h2, h3, cur, h4, h5, h6⟩ := h
  exact (Array.getElem?_eq_some_iff.1 h4).1
theorem Row22.cell {w : World} {N g cap : Nat} {cs : List Value} (h : Row22 w N g cap cs) {j : Nat} (hj : j < cs.length) : w.cell? ⟨g, j, none⟩ = some cs[j] := by
  have := h.own.cells (g := g) rfl j cs[j] (by simp [hj])
  rwa [add_plain, Nat.zero_add] at this

/-- Blocks of different kinds are different blocks. -/
theorem byts_ne_row {w : World} {g q N g6 cap6 : Nat} {cs : List Value} (h : Byts w g q) (h6 : Row22 w N g6 cap6 cs) : g6 ≠ g := by
  rintro rfl
  obtain ⟨cur, h1, _⟩ := h
  obtain ⟨_, _, _, cur', h2, _⟩ := h6
  rw [h1] at h2
  simp at h2
theorem byts_ne_rd {w : World} {g q R n c : Nat} {A : Option Addr} {i p : Int} (h : Byts w g q) (h6 : Rd w R A n c i p) : g ≠ R := by
  rintro rfl
  obtain ⟨cur, h1, _⟩ := h
  unfold Rd at h6
  rw [h1] at h6
  simp at h6
theorem row_ne_rd {w : World} {N g6 cap6 R n c : Nat} {cs : List Value} {A : Option Addr} {i p : Int} (h : Row22 w N g6 cap6 cs) (h6 : Rd w R A n c i p) : g6 ≠ R := by
  rintro rfl
  obtain ⟨_, _, _, cur', h2, _⟩ := h
  unfold Rd at h6
  rw [h2] at h6
  simp at h6
theorem byts_size {w : World} {g q q' : Nat} (h : Byts w g q) (h' : Byts w g q') : q = q' := by
  obtain ⟨cur, h1, h2, _⟩ := h
  obtain ⟨cur', h1', h2', _⟩ := h'
  rw [h1] at h1'
  simp at h1'
  subst h1'
  omega

structure Head (w wr : World) (R : Nat) (A : Option Addr) (n c k g L cap nx g6 cap6 : Nat) (p : Int) (cs : List Value) : Prop where
  fr : But R w wr
  rd : Rd wr R A n c k p
  byts : Byts wr g cap
  gN : w.heap.size ≤ g
  own : Row22 wr w.heap.size g6 cap6 cs
  chunk : ∀ v ∈ cs, IsChunk wr v
  cnt : cs.length ≤ total cs
  sum : total cs + L ≤ k
  kn : k ≤ n
  le : L ≤ cap
  c256 : 256 ≤ cap
  cm : cap ≤ maxLen
  n256 : 256 ≤ nx
  n2 : nx ≤ 2 * cap
  nM : nx ≤ 8388608

theorem Head.start {w : World} {R : Nat} {A : Option Addr} {n c k : Nat} {p : Int} (h : Rd w R A n c k p) (hk : k ≤ n) :
    Head w ((w.alloc (.cells (madeCells #[.int .u8 0] 512) 5)).alloc (.cells (madeCells #[.slice none 0 0] 4) 22)) R A n c k w.heap.size 0 512 256 (w.heap.size + 1) 4 p [] := by
  have hs : (w.alloc (.cells (madeCells #[.int .u8 0] 512) 5)).heap.size = w.heap.size + 1 := World.size_alloc _ _
  refine ⟨But.of_below (((Below.refl _ _).alloc (Nat.le_refl _) _).alloc (by rw [hs]; omega) _), ?_, ?_, Nat.le_refl _, ?_, (fun v hv => by cases hv), Nat.zero_le _, by simp [total], hk, by omega, by omega, by unfold maxLen; omega, by omega, by omega, by omega⟩
  · exact (h.of_block (Below.heap_alloc _ _ _ h.lt)).of_block (Below.heap_alloc _ _ _ (by rw [hs]; have := h.lt; omega))
  · exact (byts_made w 512).of_block (Below.heap_alloc _ _ _ (by rw [hs]; omega))
  · have := alloc_at (w.alloc (.cells (madeCells #[.int .u8 0] 512) 5)) (.cells (madeCells #[.slice none 0 0] 4) 22)
    rw [hs] at this
    exact ⟨by omega, by simp, by unfold maxLen; omega, _, this, by simp [madeCells], by simp⟩

section
variable {w wr : World} {R : Nat} {A : Option Addr} {n c k g L cap nx g6 cap6 : Nat} {p : Int} {cs : List Value}

theorem Head.read {w' : World} {m : Nat} {p' : Int} (h : Head w wr R A n c k g L cap nx g6 cap6 p cs) (h2 : But2 R g wr w') (hb : Byts w' g cap) (hr : Rd w' R A n c ((k + m : Nat) : Int) p') (hm1 : m ≤ n - k) (hm2 : m ≤ cap - L) :
    Head w w' R A n c (k + m) g (L + m) cap nx g6 cap6 p' cs := by
  have hne := byts_ne_row h.byts h.own
  have hne2 := row_ne_rd h.own h.rd
  have e1 := h.kn; have e2 := h.sum; have e3 := h.le
  refine ⟨⟨h2.os.trans h.fr.os, h2.tape.trans h.fr.tape, h2.output.trans h.fr.output, Nat.le_trans h.fr.size h2.size, fun j hj hR => ?_⟩, hr, hb, h.gN, h.own.of_block (h2.block _ h.own.lt hne2 hne), fun v hv => ?_, h.cnt, by omega, by omega, by omega, h.c256, h.cm, h.n256, h.n2, h.nM⟩
  · exact (h2.block j (Nat.lt_of_lt_of_le hj h.fr.size) hR (by have := h.gN; omega)).trans (h.fr.block j hj hR)
  · obtain ⟨g', L', cap', rfl, hl, hB⟩ := h.chunk v hv
    refine ⟨g', L', cap', rfl, hl, ?_⟩
    by_cases e : g' = g
    · subst e
      rw [byts_size hB h.byts]
      exact hb
    · exact hB.of_block (h2.block g' hB.lt (byts_ne_rd hB h.rd) e)

/-- A chunk is laid aside: 'chunks = append(chunks, b)', then a new buffer. -/
theorem Head.push {w1 w2 w3 : World} {v6 : Value} {cap' : Nat} (h : Head w wr R A n c k g L cap nx g6 cap6 p cs) (hn : n ≤ 1048576) (h1L : 1 ≤ L) (hfull : cap - L < cap / 16)
    (h1 : Below wr.heap.size wr w1) (hown : w2.ownsRow w.heap.size 22 1 v6 (cs.length + 1) (cs ++ [.slice (some ⟨g, 0, none⟩) L cap])) (hgr : w1.grownBy w2 (some g6))
    (h3 : Below w2.heap.size w2 w3) (hB : Byts w3 w2.heap.size cap') (hcap : nx ≤ cap') (hcm : cap' ≤ maxLen) :
    ∃ g6' cap6', v6 = .slice (some ⟨g6', 0, none⟩) (cs.length + 1) cap6' ∧ Head w w3 R A n c k w2.heap.size 0 cap' (nx + nx / 2) g6' cap6' p (cs ++ [.slice (some ⟨g, 0, none⟩) L cap]) := by
  have hown' : w2.ownsRow w.heap.size 22 1 v6 (cs ++ [Value.slice (some ⟨g, 0, none⟩) L cap]).length (cs ++ [.slice (some ⟨g, 0, none⟩) L cap]) := by simpa using hown
  obtain ⟨g6', cap6', hv, hrow⟩ := Row22.of_own hown' (by simp)
  have hkeep : ∀ j, j < wr.heap.size → j ≠ g6 → w3.heap[j]? = wr.heap[j]? := fun j hj hne => by
    have hj1 : j < w1.heap.size := Nat.lt_of_lt_of_le hj h1.size
    have hj2 : j < w2.heap.size := Nat.lt_of_lt_of_le hj1 hgr.size
    exact (h3.block j hj2).trans ((hgr.block j hj1 (fun e => hne (by simpa using e))).trans (h1.block j hj))
  have e1 := h.kn; have e2 := h.sum; have e3 := h.le; have e4 := h.n2; have e5 := h.n256; have e6 := h.nM; have e7 := h.cnt; have e8 := h.gN
  have hg6 := h.own.1
  have hNs : w.heap.size ≤ w2.heap.size := Nat.le_trans h.fr.size (Nat.le_trans h1.size hgr.size)
  have htot := total_snoc cs (.slice (some ⟨g, 0, none⟩) L cap)
  have hl : lenV (.slice (some ⟨g, 0, none⟩) L cap) = L := rfl
  rw [hl] at htot
  refine ⟨g6', cap6', by simpa using hv, ⟨h3.os.trans (hgr.os.trans (h1.os.trans h.fr.os)), h3.tape.trans (hgr.tape.trans (h1.tape.trans h.fr.tape)), h3.output.trans (hgr.output.trans (h1.output.trans h.fr.output)), Nat.le_trans hNs h3.size, fun j hj hR => ?_⟩, ?_, hB, hNs, hrow.of_block (h3.block _ hrow.lt), fun v hv => ?_, by simp [htot]; omega, by rw [htot]; omega, e1, Nat.zero_le _, by omega, hcm, by omega, by omega, by omega⟩
  · exact (hkeep j (Nat.lt_of_lt_of_le hj h.fr.size) (by omega)).trans (h.fr.block j hj hR)
  · exact h.rd.of_block (hkeep R h.rd.lt (fun e => row_ne_rd h.own h.rd e.symm))
  · rcases List.mem_append.1 hv with hv | hv
    · obtain ⟨g', L', cap'', rfl, hl, hB'⟩ := h.chunk v hv
      exact ⟨g', L', cap'', rfl, hl, hB'.of_block (hkeep g' hB'.lt (fun e => byts_ne_row hB' h.own e.symm))⟩
    · obtain rfl := List.mem_singleton.1 hv
      exact ⟨g, L, cap, rfl, e3, h.byts.of_block (hkeep g h.byts.lt (fun e => byts_ne_row h.byts h.own e.symm))⟩
end

/-- The cells of a chunk, as what is appended. -/
theorem Byts.news {w : World} {g q : Nat} (h : Byts w g q) (L : Nat) (hL : L ≤ q) : ∃ l : List Value, l.length = L * 1 ∧ (∀ j u, l[j]? = some u → w.cell? ((⟨g, 0, none⟩ : Addr).add j) = some u) ∧ ∀ u ∈ l, u.oneCell' = true := by
  obtain ⟨cur, h1, h2, h3⟩ := h
  refine ⟨cur.take L, by simp; omega, fun j u hu => ?_, fun u hu => ?_⟩
  · rw [add_plain, Nat.zero_add]
    rw [List.getElem?_take] at hu
    split at hu
    · simp [World.cell?, h1, hu]
    · cases hu
  · obtain ⟨z, rfl⟩ := h3 u (List.mem_of_mem_take hu)
    rfl
/-- A new buffer, its length cut to nothing, is owned. -/
theorem Byts.own {w : World} {g q B : Nat} (h : Byts w g q) (hB : B ≤ g) (hq : q ≤ maxLen) : w.ownsRow B 5 1 (.slice (some ⟨g, 0, none⟩) 0 q) 0 [] := by
  obtain ⟨cur, h1, h2, h3⟩ := h
  exact ⟨by simp, .inr ⟨g, q, cur.toArray, rfl, hB, h1, Nat.zero_le _, hq, by simp [h2], by simp⟩⟩
end Go.Proofs.Qxb6615092aDoor.rew
