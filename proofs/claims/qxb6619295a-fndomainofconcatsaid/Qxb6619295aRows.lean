/-
  No cell of these rows narrows 'for every input' (looked for: loops, veiled, ifaces, maps, wideKeys, modest, calm, conditions, laid).
  DERIVED. THE GIVEN ROWS OF THIS SEAT. 1 by the template 'for every input the law returns true; each argument reads behind the call as it read before'; 0 by the template 'total and deterministic' (their statements: Qxb6619295aTotals.lean).
  GIVEN WITH THE SEED: the statements are not yours to turn. If you find one false, say at which input.
  Laid BY PROGRAM, IN A SANDBOX (cutbox-rows.mjs): the forced cells as the released guide's own fill.sh prints them over the translation 4356a2f27de9de1a… (all of the seat's roots in one cut). By AI agents, Wed Nov 11 2026. No macro, syntax, notation, axiom, sorry.
-/
import Derived.Test.Qxb6619295aChecked
import GoSem.Claim
import GoSem.ClaimJoined
import GoSem.ClaimMapViews
import Derived.JoinedTies
import Derived.KernelRfl
namespace Go.Proofs.Qxb6619295a
/- THE CELL 'sum', in the pinned program and in every row, IS THE sha256 OF THE DUMP (.gsa) THAT Qxb6619295aProg.lean LOADS. Nothing in Lean hashes anything: it is a label: what it is worth is what the hold of that sum in a sandbox is worth. -/
noncomputable def Try.pinned : Pinned := { name := "qxb6619295a", sum := "4356a2f27de9de1a2203326d48873e14b6bd27e2a66d99b794f2ec39d127e6fe", checked := Try.checked }
namespace Rows
def none {H : Type} : Left H := { results := [], args := [] }

/-- 'zzlaws_idtoken_b1.FnDomainOfConcat': WHATEVER THE INPUT: true; the input reads as it did. -/
def fnDomainOfConcatSpec : ChangeSpec := { name := "fnDomainOfConcat", fn := fun _ => fun
  | [d1, d2] => { results := [.lit (.bool true)], args := [d1, d2] }
  | _ => none }
def fnDomainOfConcatRow : OpenClaim := { program := "qxb6619295a", sum := "4356a2f27de9de1a2203326d48873e14b6bd27e2a66d99b794f2ec39d127e6fe", func := "example.com/latchkey/latchkey/zzlaws_idtoken_b1.FnDomainOfConcat", spec := "fnDomainOfConcat", apart := false }
def FnDomainOfConcatSaid : Prop := fnDomainOfConcatRow.holds Try.pinned (OpenSpec.ofChange fnDomainOfConcatSpec)

/-- ITS FALSE NEIGHBOUR: 'it returns false'. Refute it at one input. -/
def fnDomainOfConcatWrong : ChangeSpec := { name := "fnDomainOfConcat", fn := fun _ => fun
  | [d1, d2] => { results := [.lit (.bool false)], args := [d1, d2] }
  | _ => none }
def FnDomainOfConcatWrongFalsely : Prop := fnDomainOfConcatRow.holds Try.pinned (OpenSpec.ofChange fnDomainOfConcatWrong)

end Rows
end Go.Proofs.Qxb6619295a
