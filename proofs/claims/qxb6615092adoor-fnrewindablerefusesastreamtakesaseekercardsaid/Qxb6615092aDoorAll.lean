import Derived.Test.Qxb6615092aDoorLaws
import Derived.Deep.DeepCutAuto
import Derived.Deep.LoopGhost
import Derived.LaidEql
namespace Go.Proofs.Qxb6615092aDoor.rew
open Go.ChangeShapes Go.WideShapes Go.ChangeAt Go.RowKit

theorem nil_ahead (a : Addr) (w : World) : (nilAhead 268 39 (.pointer (some a)) "Read").run Tryd.prog w = .ok (some false) w := by kernel_rfl
theorem method_read (a : Addr) (w : World) : (method 268 39 (.pointer (some a)) "Read").run Tryd.prog w = .ok (50, .pointer (some a)) w := by kernel_rfl
theorem comp73 : (Tryd.prog.info? 73).map (·.comparable) = some true := by kernel_rfl
theorem size75 : (Tryd.prog.info? 75).map (·.size) = some 1 := by kernel_rfl
theorem eof_same (a : Addr) (w : World) : (binOp .eql 45 (.iface 73 (.pointer (some a))) (.iface 73 (.pointer (some a)))).run Tryd.prog w = .ok (.bool true) w := by
  obtain ⟨i, hi, hc⟩ := Option.map_eq_some_iff.1 comp73
  obtain ⟨j, hj, _⟩ := Option.map_eq_some_iff.1 size75
  exact run_eql_iface_ptr_same w a Tryd.underlying45 Tryd.underlying73 hi hc hj

theorem But2.undrew {R g : Nat} {w w' : World} (h : But2 R g w.drew w') : But2 R g w w' := ⟨h.os, h.tape, h.output, h.size, h.block⟩

/-- What the source of the reader is to the call. -/
def SrcAt (w : World) (R : Nat) (A : Option Addr) (n : Nat) : Prop := n = 0 ∨ ∃ b off, A = some ⟨b, off, none⟩ ∧ b ≠ R ∧ ∃ z : Nat → Int, ∀ j, j < n → w.cell? ⟨b, off + j, none⟩ = some (.int .u8 (z j))

theorem But.cell {R : Nat} {w w' : World} (h : But R w w') {a : Addr} {v : Value} (hc : w.cell? a = some v) (hne : a.block ≠ R) : w'.cell? a = some v :=
  (World.cell?_of_block (w := w) (h.block a.block (World.block_lt_of_cell? w a hc) hne)).trans hc

theorem Head.draws {w wr : World} {R : Nat} {A : Option Addr} {n c k g L cap nx g6 cap6 : Nat} {p : Int} {cs : List Value} (h : Head w wr R A n c k g L cap nx g6 cap6 p cs) (kd : Nat) : Head w (wr.drew.drewN kd) R A n c k g L cap nx g6 cap6 p cs :=
  ⟨⟨h.fr.os, h.fr.tape, h.fr.output, h.fr.size, h.fr.block⟩, h.rd, h.byts, h.gN, h.own, h.chunk, h.cnt, h.sum, h.kn, h.le, h.c256, h.cm, h.n256, h.n2, h.nM⟩

set_option maxRecDepth 100000 in
set_option maxHeartbeats 2000000 in
theorem readAll_any (R : Nat) (A : Option Addr) (n c k0 : Nat) (p0 : Int) (ae : Addr) (hn : n ≤ 1048576) (hnc : n ≤ c) (hcm : c ≤ maxLen) (hk0 : k0 ≤ n) (w : World) (h : Rd w R A n c k0 p0) (hsrc : SrcAt w R A n)
    (hev : w.cell? ⟨0, 0, none⟩ = some (.iface 73 (.pointer (some ae)))) (hR0 : R ≠ 0) :
    Calls Tryd.prog 17 #[.iface 39 (.pointer (some ⟨R, 0, none⟩))] w fun e w' => ∃ (v : Value) (k : Nat) (p : Int), e = .returned (.tuple #[v, .nilIface]) ∧ But R w w' ∧ Rd w' R A n c k p := by
  have hmk1 := make22
  have hmk2 := make69
  have hna := nil_ahead
  have hme := method_read
  have H0 : Hid (Rd w R A n c k0 p0) := h
  have HS : Hid (SrcAt w R A n) := hsrc
  have HE : Hid (w.cell? ⟨0, 0, none⟩ = some (.iface 73 (.pointer (some ae)))) := hev
  have HR0 : Hid (R ≠ 0) := hR0
  clear h hsrc hev hR0
  go_enter Tryd.func17, Tryd.ntmps17
  go_wp2
  go_loopg [4, 5, 6, 7] (n - k0) (fun gk s4 s5 s6 s7 wr => ∃ (k g L cap nx g6 cap6 : Nat) (p : Int) (cs : List Value), gk = n - k ∧ s4 = .slice (some ⟨g, 0, none⟩) L cap ∧ s5 = .int .i64 nx ∧ s6 = .slice (some ⟨g6, 0, none⟩) cs.length cap6 ∧ s7 = .int .i64 (total cs : Nat) ∧ L < cap ∧ Head w wr R A n c k g L cap nx g6 cap6 p cs)
  case atStart => exact ⟨k0, _, _, _, 256, _, _, p0, [], rfl, rfl, rfl, rfl, rfl, by omega, Head.start H0.out hk0⟩
  case round =>
    obtain ⟨k, g, L, cap, nx, g6, cap6, p, cs, hgk, rfl, rfl, rfl, rfl, hLc, hh⟩ := hrel
    have HGK : Hid (gk = n - k) := hgk
    clear hgk
    have hcm' := hh.cm
    unfold maxLen at hcm'
    have hle1 : L ≤ cap := by omega
    have hcL : ¬ cap = L := by omega
    have HH : Hid (Head w wr R A n c k g L cap nx g6 cap6 p cs) := hh
    by_cases hk : k < n
    · obtain ⟨b, off, rfl, hbR, z, hz⟩ := (HS.out).resolve_left (by omega)
      have HZ : Hid (∀ j, j < n → wr.cell? ⟨b, off + j, none⟩ = some (.int .u8 (z j))) := fun j hj => hh.fr.cell (hz j hj) hbR
      have HG : Hid (g ≠ R) := byts_ne_rd hh.byts hh.rd
      have HB : Hid (b ≠ R) := hbR
      clear hz hh hbR
      go_wp2
      go_region_with (go_at_call 50; refine (read_some R b off n c k p hn hk hnc hcm z g L (cap - L) (cap - L) cap _ (by exact HH.out.rd) (by exact HZ.out) (by exact HH.out.byts) (by omega) HG.out HB.out).mono ?_; rintro e w1 ⟨rfl, hb1, hy1, hr1⟩)
      all_goals
        obtain ⟨m, hm⟩ : ∃ m, m = Nat.min (n - k) (cap - L) := ⟨_, rfl⟩
        have hm1 : m ≤ n - k := by rw [hm]; exact Nat.min_le_left _ _
        have hm2 : m ≤ cap - L := by rw [hm]; exact Nat.min_le_right _ _
        have hm3 : 1 ≤ m := by rw [hm]; exact Nat.le_min.2 ⟨by omega, by omega⟩
        rw [← hm] at hr1 ⊢
        clear hm
        have HH1 : Hid (Head w w1 R (some ⟨b, off, none⟩) n c (k + m) g (L + m) cap nx g6 cap6 (-1) cs) := HH.out.read hb1.undrew hy1 hr1 hm1 hm2
        clear hb1 hy1 hr1 HG HB HZ
        have hsum := HH1.out.sum
        have hkn := HH1.out.kn
        have hnx1 := HH1.out.n256
        have hnx2 := HH1.out.nM
        have hc256 := HH1.out.c256
        have hLm : L + m ≤ cap := by omega
        by_cases hfull : cap - (L + m) < cap / 16
        · have hfi : (cap : Int) - ((L : Int) + (m : Int)) < (cap : Int) / 16 := by omega
          have hcnt : cs.length ≤ 1048576 := by have := HH1.out.cnt; omega
          have hNs : w.heap.size ≤ w1.heap.size := HH1.out.fr.size
          obtain ⟨i22, hi22, hz22, hs22, hb22⟩ := info_parts info22
          have HI : Hid (Tryd.prog.info? 22 = some i22 ∧ i22.zero = some (.slice none 0 0) ∧ i22.size = 1 ∧ i22.bytes = 24) := ⟨hi22, hz22, hs22, hb22⟩
          clear hi22 hz22 hs22 hb22
          go_wp2_with (first
            | (at_builtin; refine wpList_append_own _ rfl (.tmp 76) (.tmp 78) 69 rfl w.heap.size 22 i22 (.slice none 0 0) 1 24 Tryd.underlying69 HI.out.1 HI.out.2.1 HI.out.2.2.1 HI.out.2.2.2 rfl (by decide) _ cs.length cs rfl (by exact (HH1.out.own.own).alloc _) ⟨w1.heap.size, 0, none⟩ 1 1 [.slice (some ⟨g, 0, none⟩) (L + m) cap] rfl rfl (cell_one_new _ _ _) (by intro u hu; simp at hu; subst hu; rfl) (by unfold maxLen; omega) (by omega) (by simp; omega) ?_; intro v6 w2 hown2 hgr2 _)
            | (at_builtin; refine wpList_append_make _ rfl (.const (.slice none 0 0)) (.tmp 84) rfl nx _ rfl rfl rfl (by omega) (by omega) ?_; intro cap' w3 hc1 hc2 hb3 hy3))
          have HP := HH1.out.push hn (by omega) hfull ((Below.refl _ _).alloc (Nat.le_refl _) _) hown2 (by exact hgr2) hb3 hy3 hc1 hc2
          clear hown2 hgr2 hb3 hy3
          obtain ⟨g6', cap6', hv6, hH3⟩ := HP
          go_roundg (n - (k + m))
          case measure => have := HGK.out; omega
          case rel => exact ⟨k + m, w2.heap.size, 0, cap', nx + nx / 2, g6', cap6', -1, cs ++ [.slice (some ⟨g, 0, none⟩) (L + m) cap], rfl, rfl, by go_num, by rw [hv6]; simp, by rw [total_snoc]; simp [lenV], by omega, hH3⟩
        · have hfi : (cap : Int) / 16 ≤ (cap : Int) - ((L : Int) + (m : Int)) := by omega
          go_wp2
          go_roundg (n - (k + m))
          case measure => have := HGK.out; omega
          case rel => exact ⟨k + m, g, L + m, cap, nx, g6, cap6, -1, cs, rfl, by go_num, rfl, rfl, rfl, by omega, HH1.out⟩
    · have HE1 : Hid (wr.cell? ⟨0, 0, none⟩ = some (.iface 73 (.pointer (some ae)))) := hh.fr.cell HE.out (fun e => HR0.out e.symm)
      have hke : (n : Int) ≤ ((k : Nat) : Int) := by omega
      clear hh
      go_wp2
      go_region_with (go_at_call 50; refine (read_eof R A n c k p hke _ (.iface 73 (.pointer (some ae))) _ (by exact HH.out.rd) (by exact HE1.out)).mono ?_; rintro e w1 ⟨rfl, kd, hw1⟩; have HH1 : Hid (Head w w1 R A n c k g L cap nx g6 cap6 p cs) := (by rw [hw1]; exact HH.out.draws kd); have he1 : w1.cell? ⟨0, 0, none⟩ = some (.iface 73 (.pointer (some ae))) := (by rw [hw1]; exact HE1.out); clear hw1)
      all_goals
        have hq := eof_same ae
        clear hke hcL
        have hsum := HH1.out.sum
        have hkn := HH1.out.kn
        by_cases hcs : cs = []
        · subst hcs
          go_wp2
          go_ret2
          exact ⟨_, k, p, rfl, HH1.out.fr, HH1.out.rd⟩
        · have hpos : 0 < cs.length := List.length_pos_iff.2 hcs
          have hz : ((cs.length : Int) == 0) = false := by simp; omega
          have HCS : Hid (cs ≠ []) := hcs
          clear hcs
          have hcnt := HH1.out.cnt
          go_wp2_with (at_builtin; refine wpList_append_make _ rfl (.const (.slice none 0 0)) (.tmp 49) rfl (total cs + L) _ rfl rfl (by omega) (by omega) (by omega) ?_; intro cap' w3 hc1 hc2 hb3 hy3)
          obtain ⟨i5, hi5, hz5, hs5, hb5⟩ := info_parts info5
          have HI : Hid (Tryd.prog.info? 5 = some i5 ∧ i5.zero = some (.int .u8 0) ∧ i5.size = 1 ∧ i5.bytes = 1) := ⟨hi5, hz5, hs5, hb5⟩
          have HB3 : Hid (Below w1.heap.size w1 w3) := hb3
          have HY3 : Hid (w3.ownsRow w1.heap.size 5 1 (.slice (some ⟨w1.heap.size, 0, none⟩) 0 cap') 0 []) := hy3.own (Nat.le_refl _) hc2
          clear hi5 hz5 hs5 hb5 hb3 hy3 he1 hq hna hme hmk1 hmk2
          go_loopg [10, 54] cs.length (fun gj s10 s54 wy => ∃ (j : Nat) (xs : List Value), j ≤ cs.length ∧ gj = cs.length - j ∧ s54 = .int .i64 j ∧ Below w1.heap.size w1 wy ∧ wy.ownsRow w1.heap.size 5 1 s10 xs.length xs ∧ xs.length ≤ total (cs.take j))
          case atStart => exact ⟨0, [], Nat.zero_le _, rfl, rfl, HB3.out, HY3.out, Nat.zero_le _⟩
          case round =>
            obtain ⟨j, xs, hj, hgj, rfl, hbel, hown, hlen⟩ := hrel
            have HGJ : Hid (gk = cs.length - j) := hgj
            have HBW : Hid (Below w1.heap.size w1 wr) := hbel
            have HOW : Hid (wr.ownsRow w1.heap.size 5 1 u10 xs.length xs) := hown
            have HLE : Hid (xs.length ≤ total (cs.take j)) := hlen
            have htk : total (cs.take j) ≤ total cs := total_take_le cs j
            have hxs : xs.length ≤ 1048576 := by omega
            have hws : w1.heap.size ≤ wr.heap.size := hbel.size
            clear hgj hbel hown hlen htk
            by_cases hjl : j < cs.length
            · obtain ⟨g', L', cap'', hcj, hl', hB'⟩ := HH1.out.chunk cs[j] (List.getElem_mem hjl)
              have g1 : wr.cell? ⟨g6, j, none⟩ = some (.slice (some ⟨g', 0, none⟩) L' cap'') := by
                rw [← hcj]
                exact (HBW.out.cell (p := ⟨g6, j, none⟩) HH1.out.own.lt).trans (HH1.out.own.cell hjl)
              obtain ⟨l, hl1, hl2, hl3⟩ := (hB'.of_block (HBW.out.block g' hB'.lt)).news L' hl'
              have hlt : lenV cs[j] = L' := by rw [hcj]; rfl
              have htt := total_take_succ cs j hjl
              rw [hlt] at htt
              have htl := total_take_le cs (j + 1)
              have hL' : L' ≤ 1048576 := by omega
              have HT : Hid (total (cs.take (j + 1)) = total (cs.take j) + L') := htt
              have HL : Hid (l.length = L' * 1 ∧ (∀ j u, l[j]? = some u → wr.cell? ((⟨g', 0, none⟩ : Addr).add j) = some u) ∧ ∀ u ∈ l, u.oneCell' = true) := ⟨hl1, hl2, hl3⟩
              have hji : (j : Int) < (cs.length : Int) := by omega
              clear hcj hl' hB' hl1 hl2 hl3 hlt htt htl
              go_wp2_with (at_builtin; refine wpList_append_own _ rfl (.tmp 58) (.tmp 59) 22 rfl w1.heap.size 5 i5 (.int .u8 0) 1 1 Tryd.underlying22 HI.out.1 HI.out.2.1 HI.out.2.2.1 HI.out.2.2.2 rfl (by decide) _ xs.length xs rfl (by exact HOW.out) ⟨g', 0, none⟩ L' cap'' l rfl HL.out.1 HL.out.2.1 HL.out.2.2 (by unfold maxLen; omega) (by omega) (by omega) ?_; intro v' w2 hown2 hgr2 _)
              have HO2 : Hid (w2.ownsRow w1.heap.size 5 1 v' (xs ++ l).length (xs ++ l)) := by
                have := HL.out.1
                rw [List.length_append, this, Nat.mul_one]
                exact hown2
              have HB2 : Hid (Below w1.heap.size w1 w2) := HBW.out.grown hgr2 hws (fun q hq => (HOW.out.lt q hq).1)
              clear hown2 hgr2
              go_roundg (cs.length - (j + 1))
              case measure => have := HGJ.out; omega
              case rel => exact ⟨j + 1, xs ++ l, by omega, rfl, by go_num, HB2.out, HO2.out, by have h1 := HL.out.1; have h2 := HT.out; have h3 := HLE.out; rw [List.length_append]; omega⟩
            · obtain ⟨l, hl1, hl2, hl3⟩ := (HH1.out.byts.of_block (HBW.out.block g HH1.out.byts.lt)).news L HH1.out.le
              have HL : Hid (l.length = L * 1 ∧ (∀ j u, l[j]? = some u → wr.cell? ((⟨g, 0, none⟩ : Addr).add j) = some u) ∧ ∀ u ∈ l, u.oneCell' = true) := ⟨hl1, hl2, hl3⟩
              clear hl1 hl2 hl3
              go_wp2_with (at_builtin; refine wpList_append_own _ rfl (.tmp 62) (.tmp 63) 22 rfl w1.heap.size 5 i5 (.int .u8 0) 1 1 Tryd.underlying22 HI.out.1 HI.out.2.1 HI.out.2.2.1 HI.out.2.2.2 rfl (by decide) _ xs.length xs rfl (by exact HOW.out) ⟨g, 0, none⟩ L cap l rfl HL.out.1 HL.out.2.1 HL.out.2.2 (by unfold maxLen; omega) (by omega) (by omega) ?_; intro v' w2 hown2 hgr2 _)
              have HB2 : Below w1.heap.size w1 w2 := HBW.out.grown hgr2 hws (fun q hq => (HOW.out.lt q hq).1)
              clear hown2 hgr2
              go_ret2
              exact ⟨v', k, p, rfl, HH1.out.fr.trans (But.of_below HB2), HH1.out.rd.of_block (HB2.block R HH1.out.rd.lt)⟩
end Go.Proofs.Qxb6615092aDoor.rew
