import Derived.Test.Qxb6615092aDoorReader
import Derived.Deep.RegionLaw
namespace Go.Proofs.Qxb6615092aDoor.rew
open Go.ChangeShapes Go.WideShapes Go.ChangeAt Go.RowKit

theorem read_eof (R : Nat) (A : Option Addr) (n c : Nat) (i p : Int) (hi : (n : Int) ≤ i) (b : Value) (ev : Value) (w : World) (h : Rd w R A n c i p) (hev : w.cell? ⟨0, 0, none⟩ = some ev) :
    Calls Tryd.prog 50 #[.pointer (some ⟨R, 0, none⟩), b] w fun e w' => e = .returned (.tuple #[.int .i64 0, ev]) ∧ ∃ k, w' = w.drewN k := by
  have g0 : w.cell? ⟨R, 0, none⟩ = some (.slice A n c) := h.cell 0
  have g1 : w.cell? ⟨R, 1, none⟩ = some (.int .i64 i) := h.cell 1
  clear h
  go_enter Tryd.func50, Tryd.ntmps50
  go_wp2
  go_quiet (fail)
  go_wp2
  go_quiet (fail)
  go_wp2
  go_ret2
  exact ⟨rfl, _, World.drewN_drewN _ _ _⟩

theorem size5 : (Tryd.prog.info? 5).map (·.size) = some 1 := by kernel_rfl
theorem info5 : (Tryd.prog.info? 5).map (fun i => (i.zero, i.size, i.bytes)) = some (some (.int .u8 0), 1, 1) := by kernel_rfl

/-- Block g is a row of q bytes, whatever they are, none frozen. -/
def Byts (w : World) (g q : Nat) : Prop := ∃ cur : List Value, w.heap[g]? = some (.cells cur.toArray 5 (0, 0)) ∧ cur.length = q ∧ ∀ v ∈ cur, ∃ z, v = .int .u8 z

theorem Byts.of_block {w w' : World} {g q : Nat} (h : Byts w g q) (e : w'.heap[g]? = w.heap[g]?) : Byts w' g q := by
  obtain ⟨cur, h1, h2⟩ := h
  exact ⟨cur, e.trans h1, h2⟩
theorem Byts.lt {w : World} {g q : Nat} (h : Byts w g q) : g < w.heap.size := by
  obtain ⟨cur, h1, h2⟩ := h
  exact (Array.getElem?_eq_some_iff.1 h1).1
theorem Byts.cell {w : World} {g q : Nat} (h : Byts w g q) {j : Nat} (hj : j < q) : ∃ z, w.cell? ⟨g, j, none⟩ = some (.int .u8 z) := by
  obtain ⟨cur, h1, h2, h3⟩ := h
  obtain ⟨z, hz⟩ := h3 (cur[j]'(by omega)) (List.getElem_mem _)
  exact ⟨z, by simp [World.cell?, h1, ← hz]⟩

/-- 'copy' into a part of such a row. -/
theorem run_copy_bytes (ty g o dLen dCap b so sLen sCap q : Nat) (z : Nat → Int) (w : World) (hb : Byts w g q) (hfit : o + dLen ≤ q)
    (hsrc : ∀ j, j < Nat.min sLen dLen → w.cell? ⟨b, so + j, none⟩ = some (.int .u8 (z j))) :
    ∃ w', (Builtin.copy_ #[22, 22] ty #[.slice (some ⟨g, o, none⟩) dLen dCap, .slice (some ⟨b, so, none⟩) sLen sCap]).run Tryd.prog w = .ok (goInt (Nat.min sLen dLen)) w' ∧ But g w w' ∧ Byts w' g q := by
  obtain ⟨cur, h1, h2, h3⟩ := hb
  have hle : Nat.min sLen dLen ≤ dLen := Nat.min_le_right _ _
  have hrun := run_copy_row (P := Tryd.prog) w 22 22 ty 5 g o dLen dCap ⟨b, so, none⟩ sLen sCap cur.toArray 5 ((List.range (Nat.min sLen dLen)).map fun j => .int .u8 (z j)) Tryd.underlying22 size5 h1 (by simp)
    (fun j v hv => by
      rw [List.getElem?_map] at hv
      obtain ⟨i, hi, rfl⟩ := Option.map_eq_some_iff.1 hv
      obtain ⟨hlt, rfl⟩ := List.getElem?_eq_some_iff.1 hi
      simp only [List.length_range] at hlt
      rw [List.getElem_range, add_plain]
      exact hsrc j hlt) (by simp [h2]; omega) (fun v hv => by obtain ⟨j, _, rfl⟩ := List.mem_map.1 hv; rfl)
  rw [List.length_map, List.length_range] at hrun
  refine ⟨_, hrun, ⟨rfl, rfl, rfl, by simp [World.setRow], fun k _ hk => setRow_other _ _ _ _ hk⟩, _, setRow_heap w g _ _ 5 _ h1, ?_, ?_⟩
  · simp [h2]; omega
  · intro v hv
    simp only [List.mem_append] at hv
    rcases hv with (hv | hv) | hv
    · exact h3 v (List.mem_of_mem_take hv)
    · obtain ⟨j, _, rfl⟩ := List.mem_map.1 hv
      exact ⟨_, rfl⟩
    · exact h3 v (List.mem_of_mem_drop hv)

/-- The same as one step of a region that draws its order. -/
theorem step_copy_bytes {ops : Array Oper} {o : Oper} {a : Act} {w : World} {K : Act → World → Prop} {Q : Exit → Act → World → Prop} {E : Prop} (hgd : o.guard = none) (d s : Operand)
    (ho : o.op = .call { callee := .builtin .copy, args := #[d, s], argTypes := #[22, 22] }) (g off dLen dCap b so sLen sCap q : Nat) (hd : a.eval d = .slice (some ⟨g, off, none⟩) dLen dCap) (hs : a.eval s = .slice (some ⟨b, so, none⟩) sLen sCap)
    (z : Nat → Int) (hb : Byts w g q) (hfit : off + dLen ≤ q) (hsrc : ∀ j, j < Nat.min sLen dLen → w.cell? ⟨b, so + j, none⟩ = some (.int .u8 (z j)))
    (h : ∀ w', But g w w' → Byts w' g q → K (a.put o.dst (goInt (Nat.min sLen dLen))) w') :
    if Region.wanted o (yielded ops a.tmps) = true then Oper.wp Tryd.prog o a w K Q else E := by
  have hw : Region.wanted o (yielded ops a.tmps) = true := by simp [Region.wanted, hgd]
  rw [if_pos hw]
  obtain ⟨w', hrun, h1, h2⟩ := run_copy_bytes o.type g off dLen dCap b so sLen sCap q z w hb hfit hsrc
  unfold Oper.wp
  simp [execOp, ho, resolve, invoke, builtin, hd, hs, hrun, Result.andThen]
  exact h w' h1 h2

/-- The blocks but R and g are as they were. -/
structure But2 (R g : Nat) (w w' : World) : Prop where
  os : w'.os = w.os
  tape : w'.tape = w.tape
  output : w'.output = w.output
  size : w.heap.size ≤ w'.heap.size
  block : ∀ k, k < w.heap.size → k ≠ R → k ≠ g → w'.heap[k]? = w.heap[k]?
theorem But2.of {R g : Nat} {a b c d : World} (h1 : But R a b) (h2 : But g b.drew c) (h3 : But R c d) : But2 R g a d :=
  ⟨h3.os.trans (h2.os.trans h1.os), h3.tape.trans (h2.tape.trans h1.tape), h3.output.trans (h2.output.trans h1.output), Nat.le_trans h1.size (Nat.le_trans h2.size h3.size),
    fun k hk hR hg => by
      have e1 := h1.block k hk hR
      have hk1 : k < b.heap.size := Nat.lt_of_lt_of_le hk h1.size
      have e2 : c.heap[k]? = b.heap[k]? := h2.block k hk1 hg
      have e3 := h3.block k (Nat.lt_of_lt_of_le hk1 h2.size) hR
      rw [e3, e2, e1]⟩

set_option maxHeartbeats 400000 in
theorem read_some (R : Nat) (b off n c k : Nat) (p : Int) (hn : n ≤ 1048576) (hk : k < n) (hc : n ≤ c) (_hc2 : c ≤ maxLen) (z : Nat → Int) (g o len cap q : Nat) (w : World) (h : Rd w R (some ⟨b, off, none⟩) n c k p) (hsrc : ∀ j, j < n → w.cell? ⟨b, off + j, none⟩ = some (.int .u8 (z j)))
    (hg : Byts w g q) (hfit : o + len ≤ q) (hgR : g ≠ R) (hbR : b ≠ R) :
    Calls Tryd.prog 50 #[.pointer (some ⟨R, 0, none⟩), .slice (some ⟨g, o, none⟩) len cap] w fun e w' => e = .returned (.tuple #[.int .i64 ((Nat.min (n - k) len : Nat) : Int), .nilIface]) ∧ But2 R g w w' ∧ Byts w' g q ∧ Rd w' R (some ⟨b, off, none⟩) n c ((k + Nat.min (n - k) len : Nat) : Int) (-1) := by
  unfold maxLen at _hc2
  have g0 : w.cell? ⟨R, 0, none⟩ = some (.slice (some ⟨b, off, none⟩) n c) := h.cell 0
  have g1 : w.cell? ⟨R, 1, none⟩ = some (.int .i64 k) := h.cell 1
  have g2 : w.cell? ⟨R, 2, none⟩ = some (.int .i64 p) := h.cell 2
  have f2 := h.frozen 2
  have H : Hid (Rd w R (some ⟨b, off, none⟩) n c k p) := h
  have HG : Hid (Byts w g q) := hg
  have HS : Hid (∀ j, j < n → w.cell? ⟨b, off + j, none⟩ = some (.int .u8 (z j))) := hsrc
  have HN1 : Hid (g ≠ R) := hgR
  have HN2 : Hid (b ≠ R) := hbR
  clear h hg hsrc hgR hbR
  have hki : ((k : Int) < (n : Int)) := by omega
  have hkn : k ≤ n := by omega
  have hck : ¬ c = k := by omega
  go_enter Tryd.func50, Tryd.ntmps50
  go_wp2
  go_quiet (fail)
  go_wp2
  have hR1 : Rd ((w.drewN nq).setCell ⟨R, 2, none⟩ (.int .i64 (-1))) R (some ⟨b, off, none⟩) n c k (-1) := Rd.set2 (w := w.drewN nq) H.out (-1)
  have hG1 : Byts ((w.drewN nq).setCell ⟨R, 2, none⟩ (.int .i64 (-1))) g q := HG.out.of_block (Below.heap_setCell (w.drewN nq) _ _ _ HN1.out)
  have hS1 : ∀ j, j < n → ((w.drewN nq).setCell ⟨R, 2, none⟩ (.int .i64 (-1))).cell? ⟨b, off + j, none⟩ = some (.int .u8 (z j)) := fun j hj => (World.cell?_of_block (w := w.drewN nq) (Below.heap_setCell (w.drewN nq) _ _ _ HN2.out)).trans (HS.out j hj)
  have hB1 : But R w ((w.drewN nq).setCell ⟨R, 2, none⟩ (.int .i64 (-1))) := ((But.refl R w).drewN nq).setR 2 _
  generalize (w.drewN nq).setCell ⟨R, 2, none⟩ (.int .i64 (-1)) = W at hR1 hG1 hS1 hB1 ⊢
  clear g0 g1 g2 f2
  have g0 : W.cell? ⟨R, 0, none⟩ = some (.slice (some ⟨b, off, none⟩) n c) := hR1.cell 0
  have g1 : W.cell? ⟨R, 1, none⟩ = some (.int .i64 k) := hR1.cell 1
  have H1 : Hid (Rd W R (some ⟨b, off, none⟩) n c k (-1)) := hR1
  have HG1 : Hid (Byts W g q) := hG1
  have HS1 : Hid (∀ j, j < n → W.cell? ⟨b, off + j, none⟩ = some (.int .u8 (z j))) := hS1
  have HB1 : Hid (But R w W) := hB1
  clear hR1 hG1 hS1 hB1
  have hmin : Nat.min (n - k) len ≤ n - k := Nat.min_le_left _ _
  have HS2 : Hid (∀ j, j < Nat.min (n - k) len → W.cell? ⟨b, off + k + j, none⟩ = some (.int .u8 (z (k + j)))) := fun j hj => by rw [Nat.add_assoc]; exact HS1.out (k + j) (by omega)
  go_region_law (refine step_copy_bytes rfl (.tmp 20) (.tmp 29) rfl g o len cap b (off + k) (n - k) (c - k) q rfl rfl (fun j => z (k + j)) (by exact HG1.out) hfit (by exact HS2.out) ?_; intro w4 hb4 hg4)
  all_goals
    have hR4 : Rd w4 R (some ⟨b, off, none⟩) n c k (-1) := H1.out.of_block (hb4.block R H1.out.lt (fun e => HN1.out e.symm))
    clear g0 g1
    have g1 : w4.cell? ⟨R, 1, none⟩ = some (.int .i64 k) := hR4.cell 1
    have f1 := hR4.frozen 1
    have H4 : Hid (Rd w4 R (some ⟨b, off, none⟩) n c k (-1)) := hR4
    have HG4 : Hid (Byts w4 g q) := hg4
    have HB4 : Hid (But g W.drew w4) := hb4
    clear hR4 hg4 hb4 hck hkn hki HS HS1 HS2
    obtain ⟨m, hm⟩ : ∃ m, m = Nat.min (n - k) len := ⟨_, rfl⟩
    have HM : Hid (m = Nat.min (n - k) len) := hm
    rw [← hm] at hmin ⊢
    clear hm
    go_wp2
    go_ret2
    refine ⟨by rw [HM.out]; rfl, But2.of HB1.out HB4.out ((But.refl _ _).setR 1 _), HG4.out.of_block (Below.heap_setCell _ _ _ _ HN1.out), ?_⟩
    rw [← HM.out]
    exact H4.out.set1 _
end Go.Proofs.Qxb6615092aDoor.rew
