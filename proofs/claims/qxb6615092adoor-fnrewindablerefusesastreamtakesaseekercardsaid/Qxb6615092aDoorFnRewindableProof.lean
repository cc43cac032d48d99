/-
  THE ROW AND THE TIED CARD of 'Rows.FnRewindableRefusesAStreamTakesASeekerCardSaid', after the guide's worked frames (WoownProofs; the skeleton tool's frame for a slice of bytes). The walks lie in the texts that it imports.
-/
import Derived.Test.Qxb6615092aDoorLaw
import Derived.Test.Qxb6615092aDoorTie
import Derived.Test.Qxb6615092aDoorCards
import Derived.WalkKit
import Derived.ProofKit
import Derived.OpenShut
import Derived.ChangeOld
import Derived.Below
import Derived.Handy
import Derived.Lay
import Derived.Stop.LaidErr
import Derived.SevenTiedAt
namespace Go.Proofs.Qxb6615092aDoor.fnRewindable
open Go.ChangeShapes Go.WideShapes Go.ChangeAt Go.RowKit

theorem own : ownKnob Tryd.prog.godebug = none := by kernel_rfl
theorem laidOut : laidOutB Tryd.prog = true := by kernel_rfl

/-! ### The sentinel io.EOF: closed facts, and what the condition gives the walk -/
theorem gEof : Tryd.prog.globalNamed "io.EOF" = some 0 := by kernel_rfl
theorem gEofType : (Tryd.prog.globals[0]?).map (·.type) = some 45 := by kernel_rfl
theorem cells75 : Tryd.prog.cellsOf 75 = 1 := by kernel_rfl
theorem cells9 : Tryd.prog.cellsOf 9 = 1 := by kernel_rfl
/-- The type's name that the listed datum bears. -/
def nameIn : DataW Unit → String
  | .iface n _ => n
  | _ => ""
theorem row73 (u : TypeId) (h : Tryd.prog.typeName? 3 u = some (nameIn Rows.laid_io_EOF)) : u = 73 :=
  typeName_ptr_named (nm := "errors.errorString") (by kernel_rfl) (by kernel_rfl) (by decide) u (h.trans (congrArg some (by decide)))

theorem eof_of_laid {W : World} (h : laidMetH Tryd.prog Rows.fnRewindableRefusesAStreamTakesASeekerRow.laid W) : ∃ ae, W.cell? ⟨0, 0, none⟩ = some (.iface 73 (.pointer (some ae))) := by
  have h' : laidMet Tryd.prog [("io.EOF", Rows.laid_io_EOF)] W := by
    rw [MakeChecks.laidMetH_plain _ _ _ (by kernel_rfl)] at h
    exact h
  obtain ⟨a, s, hv, _, _, _⟩ := laid_sentinel h' gEof gEofType Tryd.underlying45 row73 Tryd.underlying73 Tryd.underlying75 rfl rfl Tryd.underlying9 cells75 cells9
  exact ⟨a, by simpa using World.var?_cell gEof hv 0⟩

set_option maxRecDepth 100000 in
theorem lifted (os : Os) (started : os.Started) (H : Type) (enc : TypeId × Value → H) :
    ReturnsInHanded {} Tryd.checked os 3 .any (fun w args => (Rows.fnRewindableRefusesAStreamTakesASeekerSpec.pre enc Tryd.prog Tryd.f3 [] false w args ∧ laidMetH Tryd.prog Rows.fnRewindableRefusesAStreamTakesASeekerRow.laid w) ∧ sizedMet enc Tryd.prog Tryd.f3 (OpenSpec.ofChange Rows.fnRewindableRefusesAStreamTakesASeekerSpec) false w args)
      (Rows.fnRewindableRefusesAStreamTakesASeekerSpec.post enc Tryd.prog Tryd.f3 false true false false) := by
  refine returnsInHanded_of_change_and (C := Tryd.checked) (X := fun w _ => laidMetH Tryd.prog Rows.fnRewindableRefusesAStreamTakesASeekerRow.laid w) (fun _ _ _ hh h => h.of_heap hh) own started (by kernel_rfl) Tryd.func3
    (ChangeSpec.witness_shaped (enc := enc) (C := Tryd.checked) (os := os) (X := fun w _ => laidMetH Tryd.prog Rows.fnRewindableRefusesAStreamTakesASeekerRow.laid w) false (World.laidAll Tryd.prog os Rows.fnRewindableRefusesAStreamTakesASeekerRow.laid) #[.slice none 0 0] 8 (World.laidAll_os _ _ _)
      (World.shaped_of_ZipB (by kernel_rfl) (by kernel_rfl)) (by kernel_rfl) (by kernel_rfl) (by kernel_rfl)
      (by rw [MakeChecks.laidMetH_plain _ _ _ (by kernel_rfl)]; exact laidMet_laidAll _ (by kernel_rfl) (by kernel_rfl))) ?_
  intro W base args ds gs before hval0 hW _ _ hL _
  have hval : ∀ (j : Nat) t v, Tryd.f3.params[j]? = some t → args[j]? = some v → Value.okWide Tryd.prog W .any base t v := hval0
  have hW' := hW
  obtain ⟨p, q, hA0, hV, rfl, hfz, hnd⟩ := hW
  have hA : DataW.TrodAll enc Tryd.prog W 0 (fun _ => true) true Tryd.f3.params.toList args.toList ds p := hA0
  rw [Tryd.params3] at hA hval
  obtain ⟨v0, d0, rfl, rfl, h0⟩ := trodAll_one hA
  obtain ⟨rfl, rfl⟩ := trodVars_none hV
  obtain ⟨ae, hev⟩ := eof_of_laid hL
  obtain ⟨a0, len0, cap0, rfl⟩ := okWide_slice Tryd.underlying22 (hval 0 22 v0 rfl rfl)
  have k0 := h0
  have lt0 : ∀ x ∈ p, x.block < W.heap.size := by obtain ⟨m, hm⟩ := k0; exact DataW.trod_lt m _ _ _ hm
  obtain ⟨z, hz⟩ : ∃ z, rew.Came W a0 len0 cap0 z := by
    obtain ⟨fuel, hf⟩ := h0
    rcases open_ints Tryd.underlying22 Tryd.underlying5 (by kernel_rfl) hf with ⟨hcs, _⟩ | ⟨x, l, c, zs, hcs, _, hl, hm, hz, _, hcell, hwz⟩
    · simp [Value.cells] at hcs
      obtain ⟨rfl, rfl, rfl⟩ := hcs
      exact ⟨fun _ => 0, fun _ => ⟨rfl, rfl⟩, Nat.le_refl _, Nat.zero_le _, fun _ h => by cases h⟩
    · simp [Value.cells] at hcs
      obtain ⟨rfl, rfl, rfl⟩ := hcs
      refine ⟨fun j => zs.getD j 0, (fun h => by cases h), hl, hm, fun a ha j hj => ?_⟩
      cases ha
      exact hcell j (by simp at hz; omega)
  refine (rew.law_any a0 len0 cap0 z ae W hz hev).mono fun e W' ⟨he, bel⟩ => ?_
  subst he
  exact ⟨_, rfl, _, _, _, [], _, [], hW', trodAll_mk1 (shut_bool Tryd.underlying4 _), trodAll_mk1 (Below.trod laidOut (by kernel_rfl) (of_decide_eq_true (by kernel_rfl)) k0 bel lt0), rfl, bel.frame _, fun h => by cases h⟩

theorem row_holds : Rows.FnRewindableRefusesAStreamTakesASeekerSaid :=
  OpenClaim.holds_of_wide 3 Tryd.f3 rfl rfl rfl rfl rfl rfl rfl ⟨rfl, rfl, rfl, rfl, rfl⟩ rfl rfl rfl rfl rfl (by kernel_rfl) Tryd.func3 (by kernel_rfl)
    (of_decide_eq_true (by kernel_rfl)) (by unfold Func.isWrapper; first | (rw [if_pos (by decide +kernel)]; kernel_rfl) | (rw [if_neg (by decide +kernel)]; exact ⟨rfl, rfl⟩))
    (fun os started H enc _ => lifted os started H enc)

/-- ████ THE STATEMENT: the card ████ -/
theorem proved : Rows.FnRewindableRefusesAStreamTakesASeekerCardSaid :=
  Claim7.holds_tied_plain_at .later [] [.sentinel] true (true, "2b33a4ff75760bffd2f0fd6a89e311839b29256b0f3ab410ab76b8480db02806") true
    row_holds (fun _ h => by cases h) (by kernel_rfl) (fun _ h => by cases h) fnRewindableRefusesAStreamTakesASeeker_row_tie rfl ⟨rfl, rfl⟩ (by kernel_rfl) rfl
    (fun f fn hf hfn => by
      obtain rfl : f = 3 := Option.some.inj ((show Tryd.prog.funcNamed Rows.fnRewindableRefusesAStreamTakesASeekerRow.func = some 3 by kernel_rfl).symm.trans hf) |>.symm
      obtain rfl : fn = Tryd.f3 := (Option.some.inj (Tryd.func3.symm.trans hfn)).symm
      exact ⟨by kernel_rfl, fun j t ht => by
        rw [Tryd.params3] at ht
        have hm : t ∈ [22] := by simpa using Array.mem_of_getElem? ht
        have hall : ([22].all fun u => !Tryd.prog.wantsStandIn u) = true := by kernel_rfl
        exact (show Tryd.prog.wantsStandIn t = false by simpa using List.all_eq_true.1 hall t hm)⟩)
    (by kernel_rfl)
end Go.Proofs.Qxb6615092aDoor.fnRewindable
