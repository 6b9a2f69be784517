/-
  DERIVED. GIVEN WITH THE SEED: THE CARDS: each row of Qxb6613227aFmtRows.lean that lists a variable, with what it lists TIED to the program's text (the seventh form; the later family's looks); each row that meets fmt, with fmt's text TOLD by the authors' own Lean function (tested against real Go, not proved from fmt's source: count such statements apart). THE CARD IS WHAT COUNTS. Prove the row's statement (the work); the ties are given (Qxb6613227aFmtTie.lean); close each card by the builder's one call (the guide's Derived/Test/ToyasCard.lean, 'card_holds'). Laid BY PROGRAM, IN A SANDBOX (cutbox-door.mjs). By AI agents, Wed Nov 11 2026. No macro, syntax, notation, axiom, sorry.
-/
import Derived.Test.Qxb6613227aFmtRows
import GoSem.ClaimSeven
namespace Go.Proofs.Qxb6613227aFmt
namespace Rows

/-- THE TOLD CARD OF 'zzlaws_compose_b1.FnCycleReportsAnError'. -/
def fnCycleReportsAnErrorCard : Claim7 := { stood := { row := fnCycleReportsAnErrorRow, standIns := [], harness := (true, "33dd9afff86d84a2cc37152ce2ec4653d9dd62f934ceb85b3c50149e193ac7fc"), looks := true }, told := true, goes := false }
def FnCycleReportsAnErrorToldSaid : Prop := Claim7.holds Tryf.pinned (.plain (OpenSpec.ofChange fnCycleReportsAnErrorSpec)) fnCycleReportsAnErrorCard
/-- ITS FALSE NEIGHBOUR. Refute it at one input. -/
def FnCycleReportsAnErrorToldWrongFalsely : Prop := Claim7.holds Tryf.pinned (.plain (OpenSpec.ofChange fnCycleReportsAnErrorWrong)) fnCycleReportsAnErrorCard

/-- THE TOLD CARD OF 'zzlaws_compose_b1.FnMeasureListOfTexts'. -/
def fnMeasureListOfTextsCard : Claim7 := { stood := { row := fnMeasureListOfTextsRow, standIns := [], harness := (true, "33dd9afff86d84a2cc37152ce2ec4653d9dd62f934ceb85b3c50149e193ac7fc"), looks := true }, told := true, goes := false }
def FnMeasureListOfTextsToldSaid : Prop := Claim7.holds Tryf.pinned (.plain (OpenSpec.ofChange fnMeasureListOfTextsSpec)) fnMeasureListOfTextsCard
/-- ITS FALSE NEIGHBOUR. Refute it at one input. -/
def FnMeasureListOfTextsToldWrongFalsely : Prop := Claim7.holds Tryf.pinned (.plain (OpenSpec.ofChange fnMeasureListOfTextsWrong)) fnMeasureListOfTextsCard

/-- THE TOLD CARD OF 'zzlaws_compose_b1.FnMeasureMapOfTexts'. -/
def fnMeasureMapOfTextsCard : Claim7 := { stood := { row := fnMeasureMapOfTextsRow, standIns := [], harness := (true, "33dd9afff86d84a2cc37152ce2ec4653d9dd62f934ceb85b3c50149e193ac7fc"), looks := true }, told := true, goes := false }
def FnMeasureMapOfTextsToldSaid : Prop := Claim7.holds Tryf.pinned (.plain (OpenSpec.ofChange fnMeasureMapOfTextsSpec)) fnMeasureMapOfTextsCard
/-- ITS FALSE NEIGHBOUR. Refute it at one input. -/
def FnMeasureMapOfTextsToldWrongFalsely : Prop := Claim7.holds Tryf.pinned (.plain (OpenSpec.ofChange fnMeasureMapOfTextsWrong)) fnMeasureMapOfTextsCard
end Rows
end Go.Proofs.Qxb6613227aFmt
