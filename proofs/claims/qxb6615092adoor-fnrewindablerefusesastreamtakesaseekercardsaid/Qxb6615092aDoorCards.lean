/-
  DERIVED. GIVEN WITH THE SEED: THE CARDS: each row of Qxb6615092aDoorRows.lean that lists a variable, with what it lists TIED to the program's text (the seventh form; the later family's looks); each row that meets fmt, with fmt's text TOLD by the authors' own Lean function (tested against real Go, not proved from fmt's source: count such statements apart). THE CARD IS WHAT COUNTS. Prove the row's statement (the work); the ties are given (Qxb6615092aDoorTie.lean); close each card by the builder's one call (the guide's Derived/Test/ToyasCard.lean, 'card_holds'). Laid BY PROGRAM, IN A SANDBOX (cutbox-door.mjs). By AI agents, Wed Nov 11 2026. No macro, syntax, notation, axiom, sorry.
-/
import Derived.Test.Qxb6615092aDoorRows
import GoSem.ClaimSeven
namespace Go.Proofs.Qxb6615092aDoor
namespace Rows

/-- THE TIED CARD OF 'zzlaws_datafile_b1.FnRewindableRefusesAStreamTakesASeeker'. -/
def fnRewindableRefusesAStreamTakesASeekerCard : Claim7 := { stood := { row := fnRewindableRefusesAStreamTakesASeekerRow, standIns := [], harness := (true, "2b33a4ff75760bffd2f0fd6a89e311839b29256b0f3ab410ab76b8480db02806"), looks := true }, kinds := [], alts := [], laidByText := true, laidKinds := [.sentinel], laidTests := true, laidLooks := .later }
def FnRewindableRefusesAStreamTakesASeekerCardSaid : Prop := Claim7.holds Tryd.pinned (.plain (OpenSpec.ofChange fnRewindableRefusesAStreamTakesASeekerSpec)) fnRewindableRefusesAStreamTakesASeekerCard

/-- THE TIED CARD OF 'zzlaws_datafile_b1.FnCsvMostOfACountedTextIsTheGreatestFit'. -/
def fnCsvMostOfACountedTextIsTheGreatestFitCard : Claim7 := { stood := { row := fnCsvMostOfACountedTextIsTheGreatestFitRow, standIns := [], harness := (true, "2b33a4ff75760bffd2f0fd6a89e311839b29256b0f3ab410ab76b8480db02806"), looks := true }, kinds := [], alts := [], laidByText := true, laidKinds := [.sentinel], laidTests := true, laidLooks := .later }
def FnCsvMostOfACountedTextIsTheGreatestFitCardSaid : Prop := Claim7.holds Tryd.pinned (.plain (OpenSpec.ofChange fnCsvMostOfACountedTextIsTheGreatestFitSpec)) fnCsvMostOfACountedTextIsTheGreatestFitCard
end Rows
end Go.Proofs.Qxb6615092aDoor
