/-
  No cell of these rows narrows 'for every input' (looked for: loops, veiled, ifaces, maps, wideKeys, modest, calm, conditions, laid).
  DERIVED. THE GIVEN ROWS OF THIS SEAT. 3 by the template 'for every input the law returns true; each argument reads behind the call as it read before'; 0 by the template 'total and deterministic' (their statements: Qxb6613227aFmtTotals.lean).
  GIVEN WITH THE SEED: the statements are not yours to turn. If you find one false, say at which input.
  Laid BY PROGRAM, IN A SANDBOX (cutbox-rows.mjs): the forced cells as the released guide's own fill.sh prints them over the translation e303cc3d456eb1a8… (all of the seat's roots in one cut). By AI agents, Wed Nov 11 2026. No macro, syntax, notation, axiom, sorry.
-/
import Derived.Test.Qxb6613227aFmtChecked
import GoSem.Claim
import GoSem.ClaimJoined
import GoSem.ClaimMapViews
import Derived.JoinedTies
import Derived.KernelRfl
namespace Go.Proofs.Qxb6613227aFmt
/- THE CELL 'sum', in the pinned program and in every row, IS THE sha256 OF THE DUMP (.gsa) THAT Qxb6613227aFmtProg.lean LOADS. Nothing in Lean hashes anything: it is a label: what it is worth is what the hold of that sum in a sandbox is worth. -/
noncomputable def Tryf.pinned : Pinned := { name := "qxb6613227afmt", sum := "e303cc3d456eb1a842f17d62d4e1862e87001f6b3393378af55481647de85fb8", checked := Tryf.checked }
namespace Rows
def none {H : Type} : Left H := { results := [], args := [] }

/-- 'zzlaws_compose_b1.FnCycleReportsAnError': WHATEVER THE INPUT: true; the input reads as it did. -/
def fnCycleReportsAnErrorSpec : ChangeSpec := { name := "fnCycleReportsAnError", fn := fun _ => fun
  | [d1, d2] => { results := [.lit (.bool true)], args := [d1, d2] }
  | _ => none }
def fnCycleReportsAnErrorRow : OpenClaim := { program := "qxb6613227afmt", sum := "e303cc3d456eb1a842f17d62d4e1862e87001f6b3393378af55481647de85fb8", func := "example.com/arachne/arachne/zzlaws_compose_b1.FnCycleReportsAnError", spec := "fnCycleReportsAnError", stops := ["fmt.errorf, its operands' methods called"], inPlace := ["fmt.errorf"], unfollowed := true, recurses := true, apart := false }
/-- NO THEOREM (fmt's text is open here; it may be false): for the released tool's asking of the row's closed facts alone. THE STATEMENT IS 'FnCycleReportsAnErrorToldSaid' (Qxb6613227aFmtCards.lean). -/
def FnCycleReportsAnErrorFormAsk : Prop := fnCycleReportsAnErrorRow.holds Tryf.pinned (OpenSpec.ofChange fnCycleReportsAnErrorSpec)

/-- ITS FALSE NEIGHBOUR: 'it returns false'. Refute it at one input. -/
def fnCycleReportsAnErrorWrong : ChangeSpec := { name := "fnCycleReportsAnError", fn := fun _ => fun
  | [d1, d2] => { results := [.lit (.bool false)], args := [d1, d2] }
  | _ => none }
def FnCycleReportsAnErrorWrongFormAsk : Prop := fnCycleReportsAnErrorRow.holds Tryf.pinned (OpenSpec.ofChange fnCycleReportsAnErrorWrong)

/-- 'zzlaws_compose_b1.FnMeasureListOfTexts': WHATEVER THE INPUT: true; the input reads as it did. -/
def fnMeasureListOfTextsSpec : ChangeSpec := { name := "fnMeasureListOfTexts", fn := fun _ => fun
  | [d1, d2, d3, d4] => { results := [.lit (.bool true)], args := [d1, d2, d3, d4] }
  | _ => none }
def fnMeasureListOfTextsRow : OpenClaim := { program := "qxb6613227afmt", sum := "e303cc3d456eb1a842f17d62d4e1862e87001f6b3393378af55481647de85fb8", func := "example.com/arachne/arachne/zzlaws_compose_b1.FnMeasureListOfTexts", spec := "fnMeasureListOfTexts", stops := ["fmt.errorf, its operands' methods called"], inPlace := ["fmt.errorf"], unfollowed := true, recurses := true, apart := false }
/-- NO THEOREM (fmt's text is open here; it may be false): for the released tool's asking of the row's closed facts alone. THE STATEMENT IS 'FnMeasureListOfTextsToldSaid' (Qxb6613227aFmtCards.lean). -/
def FnMeasureListOfTextsFormAsk : Prop := fnMeasureListOfTextsRow.holds Tryf.pinned (OpenSpec.ofChange fnMeasureListOfTextsSpec)

/-- ITS FALSE NEIGHBOUR: 'it returns false'. Refute it at one input. -/
def fnMeasureListOfTextsWrong : ChangeSpec := { name := "fnMeasureListOfTexts", fn := fun _ => fun
  | [d1, d2, d3, d4] => { results := [.lit (.bool false)], args := [d1, d2, d3, d4] }
  | _ => none }
def FnMeasureListOfTextsWrongFormAsk : Prop := fnMeasureListOfTextsRow.holds Tryf.pinned (OpenSpec.ofChange fnMeasureListOfTextsWrong)

/-- 'zzlaws_compose_b1.FnMeasureMapOfTexts': WHATEVER THE INPUT: true; the input reads as it did. -/
def fnMeasureMapOfTextsSpec : ChangeSpec := { name := "fnMeasureMapOfTexts", fn := fun _ => fun
  | [d1, d2, d3, d4, d5] => { results := [.lit (.bool true)], args := [d1, d2, d3, d4, d5] }
  | _ => none }
def fnMeasureMapOfTextsRow : OpenClaim := { program := "qxb6613227afmt", sum := "e303cc3d456eb1a842f17d62d4e1862e87001f6b3393378af55481647de85fb8", func := "example.com/arachne/arachne/zzlaws_compose_b1.FnMeasureMapOfTexts", spec := "fnMeasureMapOfTexts", stops := ["fmt.errorf, its operands' methods called"], inPlace := ["fmt.errorf"], unfollowed := true, recurses := true, apart := false }
/-- NO THEOREM (fmt's text is open here; it may be false): for the released tool's asking of the row's closed facts alone. THE STATEMENT IS 'FnMeasureMapOfTextsToldSaid' (Qxb6613227aFmtCards.lean). -/
def FnMeasureMapOfTextsFormAsk : Prop := fnMeasureMapOfTextsRow.holds Tryf.pinned (OpenSpec.ofChange fnMeasureMapOfTextsSpec)

/-- ITS FALSE NEIGHBOUR: 'it returns false'. Refute it at one input. -/
def fnMeasureMapOfTextsWrong : ChangeSpec := { name := "fnMeasureMapOfTexts", fn := fun _ => fun
  | [d1, d2, d3, d4, d5] => { results := [.lit (.bool false)], args := [d1, d2, d3, d4, d5] }
  | _ => none }
def FnMeasureMapOfTextsWrongFormAsk : Prop := fnMeasureMapOfTextsRow.holds Tryf.pinned (OpenSpec.ofChange fnMeasureMapOfTextsWrong)

end Rows
end Go.Proofs.Qxb6613227aFmt
