/-
  No cell of these rows narrows 'for every input' (looked for: loops, veiled, ifaces, maps, wideKeys, modest, calm, conditions, laid).
  DERIVED. THE GIVEN ROWS OF THIS SEAT. 2 by the template 'for every input the law returns true; each argument reads behind the call as it read before'; 0 by the template 'total and deterministic' (their statements: Qxb6613741aTotals.lean).
  GIVEN WITH THE SEED: the statements are not yours to turn. If you find one false, say at which input.
  Laid BY PROGRAM, IN A SANDBOX (cutbox-rows.mjs): the forced cells as the released guide's own fill.sh prints them over the translation 5f31d7d0312eab0b… (all of the seat's roots in one cut). By AI agents, Wed Nov 11 2026. No macro, syntax, notation, axiom, sorry.
-/
import Derived.Test.Qxb6613741aChecked
import GoSem.Claim
import GoSem.ClaimJoined
import GoSem.ClaimMapViews
import Derived.JoinedTies
import Derived.KernelRfl
namespace Go.Proofs.Qxb6613741a
/- THE CELL 'sum', in the pinned program and in every row, IS THE sha256 OF THE DUMP (.gsa) THAT Qxb6613741aProg.lean LOADS. Nothing in Lean hashes anything: it is a label: what it is worth is what the hold of that sum in a sandbox is worth. -/
noncomputable def Try.pinned : Pinned := { name := "qxb6613741a", sum := "5f31d7d0312eab0b702883148c7edc120e10d8f3c8354764801d9b17edf722dd", checked := Try.checked }
namespace Rows
def none {H : Type} : Left H := { results := [], args := [] }

/-- 'zzlaws_pkg_sim_b1.FnFiguresInsertOneInstruction': WHATEVER THE INPUT: true; the input reads as it did. -/
def fnFiguresInsertOneInstructionSpec : ChangeSpec := { name := "fnFiguresInsertOneInstruction", fn := fun _ => fun
  | [d1, d2, d3, d4, d5] => { results := [.lit (.bool true)], args := [d1, d2, d3, d4, d5] }
  | _ => none }
def fnFiguresInsertOneInstructionRow : OpenClaim := { program := "qxb6613741a", sum := "5f31d7d0312eab0b702883148c7edc120e10d8f3c8354764801d9b17edf722dd", func := "example.com/starhelm/starhelm/zzlaws_pkg_sim_b1.FnFiguresInsertOneInstruction", spec := "fnFiguresInsertOneInstruction", apart := false }
def FnFiguresInsertOneInstructionSaid : Prop := fnFiguresInsertOneInstructionRow.holds Try.pinned (OpenSpec.ofChange fnFiguresInsertOneInstructionSpec)

/-- ITS FALSE NEIGHBOUR: 'it returns false'. Refute it at one input. -/
def fnFiguresInsertOneInstructionWrong : ChangeSpec := { name := "fnFiguresInsertOneInstruction", fn := fun _ => fun
  | [d1, d2, d3, d4, d5] => { results := [.lit (.bool false)], args := [d1, d2, d3, d4, d5] }
  | _ => none }
def FnFiguresInsertOneInstructionWrongFalsely : Prop := fnFiguresInsertOneInstructionRow.holds Try.pinned (OpenSpec.ofChange fnFiguresInsertOneInstructionWrong)

/-- 'zzlaws_pkg_sim_b1.FnFiguresCountLengthsAlone': WHATEVER THE INPUT: true; the input reads as it did. -/
def fnFiguresCountLengthsAloneSpec : ChangeSpec := { name := "fnFiguresCountLengthsAlone", fn := fun _ => fun
  | [d1, d2, d3, d4, d5, d6] => { results := [.lit (.bool true)], args := [d1, d2, d3, d4, d5, d6] }
  | _ => none }
def fnFiguresCountLengthsAloneRow : OpenClaim := { program := "qxb6613741a", sum := "5f31d7d0312eab0b702883148c7edc120e10d8f3c8354764801d9b17edf722dd", func := "example.com/starhelm/starhelm/zzlaws_pkg_sim_b1.FnFiguresCountLengthsAlone", spec := "fnFiguresCountLengthsAlone", apart := false }
def FnFiguresCountLengthsAloneSaid : Prop := fnFiguresCountLengthsAloneRow.holds Try.pinned (OpenSpec.ofChange fnFiguresCountLengthsAloneSpec)

/-- ITS FALSE NEIGHBOUR: 'it returns false'. Refute it at one input. -/
def fnFiguresCountLengthsAloneWrong : ChangeSpec := { name := "fnFiguresCountLengthsAlone", fn := fun _ => fun
  | [d1, d2, d3, d4, d5, d6] => { results := [.lit (.bool false)], args := [d1, d2, d3, d4, d5, d6] }
  | _ => none }
def FnFiguresCountLengthsAloneWrongFalsely : Prop := fnFiguresCountLengthsAloneRow.holds Try.pinned (OpenSpec.ofChange fnFiguresCountLengthsAloneWrong)

end Rows
end Go.Proofs.Qxb6613741a
