/-
  No cell of these rows narrows 'for every input' (looked for: loops, veiled, ifaces, maps, wideKeys, modest, calm, conditions, laid).
  DERIVED. THE GIVEN ROWS OF THIS SEAT. 4 by the template 'for every input the law returns true; each argument reads behind the call as it read before'; 0 by the template 'total and deterministic' (their statements: Qxb6614974aTotals.lean).
  GIVEN WITH THE SEED: the statements are not yours to turn. If you find one false, say at which input.
  Laid BY PROGRAM, IN A SANDBOX (cutbox-rows.mjs): the forced cells as the released guide's own fill.sh prints them over the translation 160cc9e52518ab8e… (all of the seat's roots in one cut). By AI agents, Wed Nov 11 2026. No macro, syntax, notation, axiom, sorry.
-/
import Derived.Test.Qxb6614974aChecked
import GoSem.Claim
import GoSem.ClaimJoined
import GoSem.ClaimMapViews
import Derived.JoinedTies
import Derived.KernelRfl
namespace Go.Proofs.Qxb6614974a
/- THE CELL 'sum', in the pinned program and in every row, IS THE sha256 OF THE DUMP (.gsa) THAT Qxb6614974aProg.lean LOADS. Nothing in Lean hashes anything: it is a label: what it is worth is what the hold of that sum in a sandbox is worth. -/
noncomputable def Try.pinned : Pinned := { name := "qxb6614974a", sum := "160cc9e52518ab8e8df925b973486980d4926f7eeaf32a3087bbd9fc1750d39a", checked := Try.checked }
namespace Rows
def none {H : Type} : Left H := { results := [], args := [] }

/-- 'zzlaws_root_b1.FnNestingDefaultAndOrder': WHATEVER THE INPUT: true; the input reads as it did. -/
def fnNestingDefaultAndOrderSpec : ChangeSpec := { name := "fnNestingDefaultAndOrder", fn := fun _ => fun
  | [d1, d2, d3] => { results := [.lit (.bool true)], args := [d1, d2, d3] }
  | _ => none }
def fnNestingDefaultAndOrderRow : OpenClaim := { program := "qxb6614974a", sum := "160cc9e52518ab8e8df925b973486980d4926f7eeaf32a3087bbd9fc1750d39a", func := "example.com/libanchor/libanchor/zzlaws_root_b1.FnNestingDefaultAndOrder", spec := "fnNestingDefaultAndOrder", apart := false }
def FnNestingDefaultAndOrderSaid : Prop := fnNestingDefaultAndOrderRow.holds Try.pinned (OpenSpec.ofChange fnNestingDefaultAndOrderSpec)

/-- ITS FALSE NEIGHBOUR: 'it returns false'. Refute it at one input. -/
def fnNestingDefaultAndOrderWrong : ChangeSpec := { name := "fnNestingDefaultAndOrder", fn := fun _ => fun
  | [d1, d2, d3] => { results := [.lit (.bool false)], args := [d1, d2, d3] }
  | _ => none }
def FnNestingDefaultAndOrderWrongFalsely : Prop := fnNestingDefaultAndOrderRow.holds Try.pinned (OpenSpec.ofChange fnNestingDefaultAndOrderWrong)

/-- 'zzlaws_root_b1.FnPropsAtReadsOnlyItsByte': WHATEVER THE INPUT: true; the input reads as it did. -/
def fnPropsAtReadsOnlyItsByteSpec : ChangeSpec := { name := "fnPropsAtReadsOnlyItsByte", fn := fun _ => fun
  | [d1, d2, d3, d4, d5] => { results := [.lit (.bool true)], args := [d1, d2, d3, d4, d5] }
  | _ => none }
def fnPropsAtReadsOnlyItsByteRow : OpenClaim := { program := "qxb6614974a", sum := "160cc9e52518ab8e8df925b973486980d4926f7eeaf32a3087bbd9fc1750d39a", func := "example.com/libanchor/libanchor/zzlaws_root_b1.FnPropsAtReadsOnlyItsByte", spec := "fnPropsAtReadsOnlyItsByte", apart := false }
def FnPropsAtReadsOnlyItsByteSaid : Prop := fnPropsAtReadsOnlyItsByteRow.holds Try.pinned (OpenSpec.ofChange fnPropsAtReadsOnlyItsByteSpec)

/-- ITS FALSE NEIGHBOUR: 'it returns false'. Refute it at one input. -/
def fnPropsAtReadsOnlyItsByteWrong : ChangeSpec := { name := "fnPropsAtReadsOnlyItsByte", fn := fun _ => fun
  | [d1, d2, d3, d4, d5] => { results := [.lit (.bool false)], args := [d1, d2, d3, d4, d5] }
  | _ => none }
def FnPropsAtReadsOnlyItsByteWrongFalsely : Prop := fnPropsAtReadsOnlyItsByteRow.holds Try.pinned (OpenSpec.ofChange fnPropsAtReadsOnlyItsByteWrong)

/-- 'zzlaws_root_b1.FnGetFindsEveryMember': WHATEVER THE INPUT: true; the input reads as it did. -/
def fnGetFindsEveryMemberSpec : ChangeSpec := { name := "fnGetFindsEveryMember", fn := fun _ => fun
  | [d1, d2, d3] => { results := [.lit (.bool true)], args := [d1, d2, d3] }
  | _ => none }
def fnGetFindsEveryMemberRow : OpenClaim := { program := "qxb6614974a", sum := "160cc9e52518ab8e8df925b973486980d4926f7eeaf32a3087bbd9fc1750d39a", func := "example.com/libanchor/libanchor/zzlaws_root_b1.FnGetFindsEveryMember", spec := "fnGetFindsEveryMember", unfollowed := true, recurses := true, apart := false }
def FnGetFindsEveryMemberSaid : Prop := fnGetFindsEveryMemberRow.holds Try.pinned (OpenSpec.ofChange fnGetFindsEveryMemberSpec)

/-- ITS FALSE NEIGHBOUR: 'it returns false'. Refute it at one input. -/
def fnGetFindsEveryMemberWrong : ChangeSpec := { name := "fnGetFindsEveryMember", fn := fun _ => fun
  | [d1, d2, d3] => { results := [.lit (.bool false)], args := [d1, d2, d3] }
  | _ => none }
def FnGetFindsEveryMemberWrongFalsely : Prop := fnGetFindsEveryMemberRow.holds Try.pinned (OpenSpec.ofChange fnGetFindsEveryMemberWrong)

/-- 'zzlaws_root_b1.FnGetAfterInsertAndOnScalars': WHATEVER THE INPUT: true; the input reads as it did. -/
def fnGetAfterInsertAndOnScalarsSpec : ChangeSpec := { name := "fnGetAfterInsertAndOnScalars", fn := fun _ => fun
  | [d1, d2, d3, d4, d5, d6, d7] => { results := [.lit (.bool true)], args := [d1, d2, d3, d4, d5, d6, d7] }
  | _ => none }
def fnGetAfterInsertAndOnScalarsRow : OpenClaim := { program := "qxb6614974a", sum := "160cc9e52518ab8e8df925b973486980d4926f7eeaf32a3087bbd9fc1750d39a", func := "example.com/libanchor/libanchor/zzlaws_root_b1.FnGetAfterInsertAndOnScalars", spec := "fnGetAfterInsertAndOnScalars", unfollowed := true, recurses := true, apart := false }
def FnGetAfterInsertAndOnScalarsSaid : Prop := fnGetAfterInsertAndOnScalarsRow.holds Try.pinned (OpenSpec.ofChange fnGetAfterInsertAndOnScalarsSpec)

/-- ITS FALSE NEIGHBOUR: 'it returns false'. Refute it at one input. -/
def fnGetAfterInsertAndOnScalarsWrong : ChangeSpec := { name := "fnGetAfterInsertAndOnScalars", fn := fun _ => fun
  | [d1, d2, d3, d4, d5, d6, d7] => { results := [.lit (.bool false)], args := [d1, d2, d3, d4, d5, d6, d7] }
  | _ => none }
def FnGetAfterInsertAndOnScalarsWrongFalsely : Prop := fnGetAfterInsertAndOnScalarsRow.holds Try.pinned (OpenSpec.ofChange fnGetAfterInsertAndOnScalarsWrong)

end Rows
end Go.Proofs.Qxb6614974a
