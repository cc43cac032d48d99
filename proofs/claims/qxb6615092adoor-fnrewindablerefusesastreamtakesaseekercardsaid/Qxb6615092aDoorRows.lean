/-
  NARROWER THAN 'FOR EVERY INPUT', by the rows' own cells (each row's printed sentence says how): FnRewindableRefusesAStreamTakesASeeker: laid · FnCsvMostOfACountedTextIsTheGreatestFit: laid.
  DERIVED. THE GIVEN ROWS OF THIS SEAT. 2 by the template 'for every input the law returns true; each argument reads behind the call as it read before'; 0 by the template 'total and deterministic' (their statements: Qxb6615092aDoorTotals.lean).
  GIVEN WITH THE SEED: the statements are not yours to turn. If you find one false, say at which input.
  Laid BY PROGRAM, IN A SANDBOX (cutbox-rows.mjs): the forced cells as the released guide's own fill.sh prints them over the translation 67868e01466b5ecd… (all of the seat's roots in one cut). By AI agents, Wed Nov 11 2026. No macro, syntax, notation, axiom, sorry.
-/
import Derived.Test.Qxb6615092aDoorChecked
import GoSem.Claim
import GoSem.ClaimJoined
import GoSem.ClaimMapViews
import Derived.JoinedTies
import Derived.KernelRfl
namespace Go.Proofs.Qxb6615092aDoor
/- THE CELL 'sum', in the pinned program and in every row, IS THE sha256 OF THE DUMP (.gsa) THAT Qxb6615092aDoorProg.lean LOADS. Nothing in Lean hashes anything: it is a label: what it is worth is what the hold of that sum in a sandbox is worth. -/
noncomputable def Tryd.pinned : Pinned := { name := "qxb6615092adoor", sum := "67868e01466b5ecd502ac7c17d5ffde4f347b01fc7bf7814e860511d831bc8e2", checked := Tryd.checked }
namespace Rows
def none {H : Type} : Left H := { results := [], args := [] }

/- WHAT THE LISTED PACKAGE-LEVEL VARIABLES READ AS WHEN THE CALL BEGINS. Each datum BY PROGRAM (the guide's laid-datum.mjs) off the statement by which the dump's own 'gosem.cut.vars' lays the variable. In a bare row this is a premise. The card (Qxb6615092aDoorCards.lean) ties it to the program's text. -/
def laid_io_EOF {H : Type} : DataW H := .iface "*errors.errorString" (.ptr (.agg [.lit (.string [69, 79, 70])]))

/-- 'zzlaws_datafile_b1.FnRewindableRefusesAStreamTakesASeeker': WHATEVER THE INPUT: true; the input reads as it did. -/
def fnRewindableRefusesAStreamTakesASeekerSpec : ChangeSpec := { name := "fnRewindableRefusesAStreamTakesASeeker", fn := fun _ => fun
  | [d] => { results := [.lit (.bool true)], args := [d] }
  | _ => none }
def fnRewindableRefusesAStreamTakesASeekerRow : OpenClaim := { program := "qxb6615092adoor", sum := "67868e01466b5ecd502ac7c17d5ffde4f347b01fc7bf7814e860511d831bc8e2", func := "example.com/vestline/vestline/zzlaws_datafile_b1.FnRewindableRefusesAStreamTakesASeeker", spec := "fnRewindableRefusesAStreamTakesASeeker", unfollowed := true, recurses := true, named := ["io.EOF"], apart := false, laid := [("io.EOF", laid_io_EOF)] }
def FnRewindableRefusesAStreamTakesASeekerSaid : Prop := fnRewindableRefusesAStreamTakesASeekerRow.holds Tryd.pinned (OpenSpec.ofChange fnRewindableRefusesAStreamTakesASeekerSpec)

/-- ITS FALSE NEIGHBOUR: 'it returns false'. Refute it at one input. -/
def fnRewindableRefusesAStreamTakesASeekerWrong : ChangeSpec := { name := "fnRewindableRefusesAStreamTakesASeeker", fn := fun _ => fun
  | [d] => { results := [.lit (.bool false)], args := [d] }
  | _ => none }
def FnRewindableRefusesAStreamTakesASeekerWrongFalsely : Prop := fnRewindableRefusesAStreamTakesASeekerRow.holds Tryd.pinned (OpenSpec.ofChange fnRewindableRefusesAStreamTakesASeekerWrong)

/-- 'zzlaws_datafile_b1.FnCsvMostOfACountedTextIsTheGreatestFit': WHATEVER THE INPUT: true; the input reads as it did. -/
def fnCsvMostOfACountedTextIsTheGreatestFitSpec : ChangeSpec := { name := "fnCsvMostOfACountedTextIsTheGreatestFit", fn := fun _ => fun
  | [d1, d2] => { results := [.lit (.bool true)], args := [d1, d2] }
  | _ => none }
def fnCsvMostOfACountedTextIsTheGreatestFitRow : OpenClaim := { program := "qxb6615092adoor", sum := "67868e01466b5ecd502ac7c17d5ffde4f347b01fc7bf7814e860511d831bc8e2", func := "example.com/vestline/vestline/zzlaws_datafile_b1.FnCsvMostOfACountedTextIsTheGreatestFit", spec := "fnCsvMostOfACountedTextIsTheGreatestFit", inPlace := ["internal/bytealg.Count", "internal/bytealg.IndexByte", "internal/bytealg.Index"], unfollowed := true, recurses := true, named := ["io.EOF", "internal/bytealg.MaxLen"], apart := false, laid := [("io.EOF", laid_io_EOF)] }
def FnCsvMostOfACountedTextIsTheGreatestFitSaid : Prop := fnCsvMostOfACountedTextIsTheGreatestFitRow.holds Tryd.pinned (OpenSpec.ofChange fnCsvMostOfACountedTextIsTheGreatestFitSpec)

/-- ITS FALSE NEIGHBOUR: 'it returns false'. Refute it at one input. -/
def fnCsvMostOfACountedTextIsTheGreatestFitWrong : ChangeSpec := { name := "fnCsvMostOfACountedTextIsTheGreatestFit", fn := fun _ => fun
  | [d1, d2] => { results := [.lit (.bool false)], args := [d1, d2] }
  | _ => none }
def FnCsvMostOfACountedTextIsTheGreatestFitWrongFalsely : Prop := fnCsvMostOfACountedTextIsTheGreatestFitRow.holds Tryd.pinned (OpenSpec.ofChange fnCsvMostOfACountedTextIsTheGreatestFitWrong)

end Rows
end Go.Proofs.Qxb6615092aDoor
