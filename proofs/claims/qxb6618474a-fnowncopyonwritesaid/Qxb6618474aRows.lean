/-
  No cell of these rows narrows 'for every input' (looked for: loops, veiled, ifaces, maps, wideKeys, modest, calm, conditions, laid).
  DERIVED. THE GIVEN ROWS OF THIS SEAT. 1 by the template 'for every input the law returns true; each argument reads behind the call as it read before'; 0 by the template 'total and deterministic' (their statements: Qxb6618474aTotals.lean).
  GIVEN WITH THE SEED: the statements are not yours to turn. If you find one false, say at which input.
  Laid BY PROGRAM, IN A SANDBOX (cutbox-rows.mjs): the forced cells as the released guide's own fill.sh prints them over the translation c425392a41653e6e… (all of the seat's roots in one cut). By AI agents, Wed Nov 11 2026. No macro, syntax, notation, axiom, sorry.
-/
import Derived.Test.Qxb6618474aChecked
import GoSem.Claim
import GoSem.ClaimJoined
import GoSem.ClaimMapViews
import Derived.JoinedTies
import Derived.KernelRfl
namespace Go.Proofs.Qxb6618474a
/- THE CELL 'sum', in the pinned program and in every row, IS THE sha256 OF THE DUMP (.gsa) THAT Qxb6618474aProg.lean LOADS. Nothing in Lean hashes anything: it is a label: what it is worth is what the hold of that sum in a sandbox is worth. -/
noncomputable def Try.pinned : Pinned := { name := "qxb6618474a", sum := "c425392a41653e6ee4528107dfab9b559da0fc5c306a7fbaa34801a57de59f7c", checked := Try.checked }
namespace Rows
def none {H : Type} : Left H := { results := [], args := [] }

/-- 'zzlaws_internal_records_b1.FnOwnCopyOnWrite': WHATEVER THE INPUT: true; the input reads as it did. -/
def fnOwnCopyOnWriteSpec : ChangeSpec := { name := "fnOwnCopyOnWrite", fn := fun _ => fun
  | [d1, d2, d3, d4, d5] => { results := [.lit (.bool true)], args := [d1, d2, d3, d4, d5] }
  | _ => none }
def fnOwnCopyOnWriteRow : OpenClaim := { program := "qxb6618474a", sum := "c425392a41653e6ee4528107dfab9b559da0fc5c306a7fbaa34801a57de59f7c", func := "example.com/fanfold/fanfold/zzlaws_internal_records_b1.FnOwnCopyOnWrite", spec := "fnOwnCopyOnWrite", apart := false }
def FnOwnCopyOnWriteSaid : Prop := fnOwnCopyOnWriteRow.holds Try.pinned (OpenSpec.ofChange fnOwnCopyOnWriteSpec)

/-- ITS FALSE NEIGHBOUR: 'it returns false'. Refute it at one input. -/
def fnOwnCopyOnWriteWrong : ChangeSpec := { name := "fnOwnCopyOnWrite", fn := fun _ => fun
  | [d1, d2, d3, d4, d5] => { results := [.lit (.bool false)], args := [d1, d2, d3, d4, d5] }
  | _ => none }
def FnOwnCopyOnWriteWrongFalsely : Prop := fnOwnCopyOnWriteRow.holds Try.pinned (OpenSpec.ofChange fnOwnCopyOnWriteWrong)

end Rows
end Go.Proofs.Qxb6618474a
