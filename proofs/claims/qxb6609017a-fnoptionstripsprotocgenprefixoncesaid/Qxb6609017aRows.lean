/-
  No cell of these rows narrows 'for every input' (looked for: loops, veiled, ifaces, maps, wideKeys, modest, calm, conditions, laid).
  DERIVED. THE GIVEN ROWS OF THIS SEAT. 2 by the template 'for every input the law returns true; each argument reads behind the call as it read before'; 0 by the template 'total and deterministic' (their statements: Qxb6609017aTotals.lean).
  GIVEN WITH THE SEED: the statements are not yours to turn. If you find one false, say at which input.
  Laid BY PROGRAM, IN A SANDBOX (cutbox-rows.mjs): the forced cells as the released guide's own fill.sh prints them over the translation c99c575af9d3069f… (all of the seat's roots in one cut). By AI agents, Wed Nov 11 2026. No macro, syntax, notation, axiom, sorry.
-/
import Derived.Test.Qxb6609017aChecked
import GoSem.Claim
import GoSem.ClaimJoined
import GoSem.ClaimMapViews
import Derived.JoinedTies
import Derived.KernelRfl
namespace Go.Proofs.Qxb6609017a
/- THE CELL 'sum', in the pinned program and in every row, IS THE sha256 OF THE DUMP (.gsa) THAT Qxb6609017aProg.lean LOADS. Nothing in Lean hashes anything: it is a label: what it is worth is what the hold of that sum in a sandbox is worth. -/
noncomputable def Try.pinned : Pinned := { name := "qxb6609017a", sum := "c99c575af9d3069f998154c8b88fc7d3cb959f19a45a05912e5c91c570063ad8", checked := Try.checked }
namespace Rows
def none {H : Type} : Left H := { results := [], args := [] }

/-- 'zzlaws_internal_plugintest_b1.FnOptionStripsProtocGenPrefixOnce': WHATEVER THE INPUT: true; the input reads as it did. -/
def fnOptionStripsProtocGenPrefixOnceSpec : ChangeSpec := { name := "fnOptionStripsProtocGenPrefixOnce", fn := fun _ => fun
  | [d1, d2] => { results := [.lit (.bool true)], args := [d1, d2] }
  | _ => none }
def fnOptionStripsProtocGenPrefixOnceRow : OpenClaim := { program := "qxb6609017a", sum := "c99c575af9d3069f998154c8b88fc7d3cb959f19a45a05912e5c91c570063ad8", func := "example.com/lintel/lintel/zzlaws_internal_plugintest_b1.FnOptionStripsProtocGenPrefixOnce", spec := "fnOptionStripsProtocGenPrefixOnce", apart := false }
def FnOptionStripsProtocGenPrefixOnceSaid : Prop := fnOptionStripsProtocGenPrefixOnceRow.holds Try.pinned (OpenSpec.ofChange fnOptionStripsProtocGenPrefixOnceSpec)

/-- ITS FALSE NEIGHBOUR: 'it returns false'. Refute it at one input. -/
def fnOptionStripsProtocGenPrefixOnceWrong : ChangeSpec := { name := "fnOptionStripsProtocGenPrefixOnce", fn := fun _ => fun
  | [d1, d2] => { results := [.lit (.bool false)], args := [d1, d2] }
  | _ => none }
def FnOptionStripsProtocGenPrefixOnceWrongFalsely : Prop := fnOptionStripsProtocGenPrefixOnceRow.holds Try.pinned (OpenSpec.ofChange fnOptionStripsProtocGenPrefixOnceWrong)

/-- 'zzlaws_internal_plugintest_b1.FnOptionAppendsPastThePrefix': WHATEVER THE INPUT: true; the input reads as it did. -/
def fnOptionAppendsPastThePrefixSpec : ChangeSpec := { name := "fnOptionAppendsPastThePrefix", fn := fun _ => fun
  | [d1, d2, d3] => { results := [.lit (.bool true)], args := [d1, d2, d3] }
  | _ => none }
def fnOptionAppendsPastThePrefixRow : OpenClaim := { program := "qxb6609017a", sum := "c99c575af9d3069f998154c8b88fc7d3cb959f19a45a05912e5c91c570063ad8", func := "example.com/lintel/lintel/zzlaws_internal_plugintest_b1.FnOptionAppendsPastThePrefix", spec := "fnOptionAppendsPastThePrefix", apart := false }
def FnOptionAppendsPastThePrefixSaid : Prop := fnOptionAppendsPastThePrefixRow.holds Try.pinned (OpenSpec.ofChange fnOptionAppendsPastThePrefixSpec)

/-- ITS FALSE NEIGHBOUR: 'it returns false'. Refute it at one input. -/
def fnOptionAppendsPastThePrefixWrong : ChangeSpec := { name := "fnOptionAppendsPastThePrefix", fn := fun _ => fun
  | [d1, d2, d3] => { results := [.lit (.bool false)], args := [d1, d2, d3] }
  | _ => none }
def FnOptionAppendsPastThePrefixWrongFalsely : Prop := fnOptionAppendsPastThePrefixRow.holds Try.pinned (OpenSpec.ofChange fnOptionAppendsPastThePrefixWrong)

end Rows
end Go.Proofs.Qxb6609017a
