/-
  No cell of these rows narrows 'for every input' (looked for: loops, veiled, ifaces, maps, wideKeys, modest, calm, conditions, laid).
  DERIVED. THE GIVEN ROWS OF THIS SEAT. 1 by the template 'for every input the law returns true; each argument reads behind the call as it read before'; 0 by the template 'total and deterministic' (their statements: Qxb6613604aTotals.lean).
  GIVEN WITH THE SEED: the statements are not yours to turn. If you find one false, say at which input.
  Laid BY PROGRAM, IN A SANDBOX (cutbox-rows.mjs): the forced cells as the released guide's own fill.sh prints them over the translation 8b564187c7af5ad8… (all of the seat's roots in one cut). By AI agents, Wed Nov 11 2026. No macro, syntax, notation, axiom, sorry.
-/
import Derived.Test.Qxb6613604aChecked
import GoSem.Claim
import GoSem.ClaimJoined
import GoSem.ClaimMapViews
import Derived.JoinedTies
import Derived.KernelRfl
namespace Go.Proofs.Qxb6613604a
/- THE CELL 'sum', in the pinned program and in every row, IS THE sha256 OF THE DUMP (.gsa) THAT Qxb6613604aProg.lean LOADS. Nothing in Lean hashes anything: it is a label: what it is worth is what the hold of that sum in a sandbox is worth. -/
noncomputable def Try.pinned : Pinned := { name := "qxb6613604a", sum := "8b564187c7af5ad81280156711869913174b8715cbd33b15e069292cdaabb162", checked := Try.checked }
namespace Rows
def none {H : Type} : Left H := { results := [], args := [] }

/-- 'zzlaws_internal_suci_b1.FnIMSIStringsAgreeIffDigitsAgree': WHATEVER THE INPUT: true; the input reads as it did. -/
def fnIMSIStringsAgreeIffDigitsAgreeSpec : ChangeSpec := { name := "fnIMSIStringsAgreeIffDigitsAgree", fn := fun _ => fun
  | [d1, d2, d3, d4, d5, d6] => { results := [.lit (.bool true)], args := [d1, d2, d3, d4, d5, d6] }
  | _ => none }
def fnIMSIStringsAgreeIffDigitsAgreeRow : OpenClaim := { program := "qxb6613604a", sum := "8b564187c7af5ad81280156711869913174b8715cbd33b15e069292cdaabb162", func := "example.com/corecheck/corecheck/zzlaws_internal_suci_b1.FnIMSIStringsAgreeIffDigitsAgree", spec := "fnIMSIStringsAgreeIffDigitsAgree", apart := false }
def FnIMSIStringsAgreeIffDigitsAgreeSaid : Prop := fnIMSIStringsAgreeIffDigitsAgreeRow.holds Try.pinned (OpenSpec.ofChange fnIMSIStringsAgreeIffDigitsAgreeSpec)

/-- ITS FALSE NEIGHBOUR: 'it returns false'. Refute it at one input. -/
def fnIMSIStringsAgreeIffDigitsAgreeWrong : ChangeSpec := { name := "fnIMSIStringsAgreeIffDigitsAgree", fn := fun _ => fun
  | [d1, d2, d3, d4, d5, d6] => { results := [.lit (.bool false)], args := [d1, d2, d3, d4, d5, d6] }
  | _ => none }
def FnIMSIStringsAgreeIffDigitsAgreeWrongFalsely : Prop := fnIMSIStringsAgreeIffDigitsAgreeRow.holds Try.pinned (OpenSpec.ofChange fnIMSIStringsAgreeIffDigitsAgreeWrong)

end Rows
end Go.Proofs.Qxb6613604a
