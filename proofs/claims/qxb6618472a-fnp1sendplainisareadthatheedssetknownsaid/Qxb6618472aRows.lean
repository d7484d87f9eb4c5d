/-
  No cell of these rows narrows 'for every input' (looked for: loops, veiled, ifaces, maps, wideKeys, modest, calm, conditions, laid).
  DERIVED. THE GIVEN ROWS OF THIS SEAT. 2 by the template 'for every input the law returns true; each argument reads behind the call as it read before'; 0 by the template 'total and deterministic' (their statements: Qxb6618472aTotals.lean).
  GIVEN WITH THE SEED: the statements are not yours to turn. If you find one false, say at which input.
  Laid BY PROGRAM, IN A SANDBOX (cutbox-rows.mjs): the forced cells as the released guide's own fill.sh prints them over the translation 96f0e47ceb6a2968… (all of the seat's roots in one cut). By AI agents, Wed Nov 11 2026. No macro, syntax, notation, axiom, sorry.
-/
import Derived.Test.Qxb6618472aChecked
import GoSem.Claim
import GoSem.ClaimJoined
import GoSem.ClaimMapViews
import Derived.JoinedTies
import Derived.KernelRfl
namespace Go.Proofs.Qxb6618472a
/- THE CELL 'sum', in the pinned program and in every row, IS THE sha256 OF THE DUMP (.gsa) THAT Qxb6618472aProg.lean LOADS. Nothing in Lean hashes anything: it is a label: what it is worth is what the hold of that sum in a sandbox is worth. -/
noncomputable def Try.pinned : Pinned := { name := "qxb6618472a", sum := "96f0e47ceb6a29683ad0d3eaa31f95cc9357a296a354305431f53652a009d70c", checked := Try.checked }
namespace Rows
def none {H : Type} : Left H := { results := [], args := [] }

/-- 'zzlaws_root_b1.FnP1SendFifoTellsEachUnknownEntryOnce': WHATEVER THE INPUT: true; the input reads as it did. -/
def fnP1SendFifoTellsEachUnknownEntryOnceSpec : ChangeSpec := { name := "fnP1SendFifoTellsEachUnknownEntryOnce", fn := fun _ => fun
  | [d1, d2, d3, d4, d5] => { results := [.lit (.bool true)], args := [d1, d2, d3, d4, d5] }
  | _ => none }
def fnP1SendFifoTellsEachUnknownEntryOnceRow : OpenClaim := { program := "qxb6618472a", sum := "96f0e47ceb6a29683ad0d3eaa31f95cc9357a296a354305431f53652a009d70c", func := "example.com/causeline/causeline/zzlaws_root_b1.FnP1SendFifoTellsEachUnknownEntryOnce", spec := "fnP1SendFifoTellsEachUnknownEntryOnce", apart := false }
def FnP1SendFifoTellsEachUnknownEntryOnceSaid : Prop := fnP1SendFifoTellsEachUnknownEntryOnceRow.holds Try.pinned (OpenSpec.ofChange fnP1SendFifoTellsEachUnknownEntryOnceSpec)

/-- ITS FALSE NEIGHBOUR: 'it returns false'. Refute it at one input. -/
def fnP1SendFifoTellsEachUnknownEntryOnceWrong : ChangeSpec := { name := "fnP1SendFifoTellsEachUnknownEntryOnce", fn := fun _ => fun
  | [d1, d2, d3, d4, d5] => { results := [.lit (.bool false)], args := [d1, d2, d3, d4, d5] }
  | _ => none }
def FnP1SendFifoTellsEachUnknownEntryOnceWrongFalsely : Prop := fnP1SendFifoTellsEachUnknownEntryOnceRow.holds Try.pinned (OpenSpec.ofChange fnP1SendFifoTellsEachUnknownEntryOnceWrong)

/-- 'zzlaws_root_b1.FnP1SendPlainIsAReadThatHeedsSetKnown': WHATEVER THE INPUT: true; the input reads as it did. -/
def fnP1SendPlainIsAReadThatHeedsSetKnownSpec : ChangeSpec := { name := "fnP1SendPlainIsAReadThatHeedsSetKnown", fn := fun _ => fun
  | [d1, d2, d3, d4, d5, d6] => { results := [.lit (.bool true)], args := [d1, d2, d3, d4, d5, d6] }
  | _ => none }
def fnP1SendPlainIsAReadThatHeedsSetKnownRow : OpenClaim := { program := "qxb6618472a", sum := "96f0e47ceb6a29683ad0d3eaa31f95cc9357a296a354305431f53652a009d70c", func := "example.com/causeline/causeline/zzlaws_root_b1.FnP1SendPlainIsAReadThatHeedsSetKnown", spec := "fnP1SendPlainIsAReadThatHeedsSetKnown", apart := false }
def FnP1SendPlainIsAReadThatHeedsSetKnownSaid : Prop := fnP1SendPlainIsAReadThatHeedsSetKnownRow.holds Try.pinned (OpenSpec.ofChange fnP1SendPlainIsAReadThatHeedsSetKnownSpec)

/-- ITS FALSE NEIGHBOUR: 'it returns false'. Refute it at one input. -/
def fnP1SendPlainIsAReadThatHeedsSetKnownWrong : ChangeSpec := { name := "fnP1SendPlainIsAReadThatHeedsSetKnown", fn := fun _ => fun
  | [d1, d2, d3, d4, d5, d6] => { results := [.lit (.bool false)], args := [d1, d2, d3, d4, d5, d6] }
  | _ => none }
def FnP1SendPlainIsAReadThatHeedsSetKnownWrongFalsely : Prop := fnP1SendPlainIsAReadThatHeedsSetKnownRow.holds Try.pinned (OpenSpec.ofChange fnP1SendPlainIsAReadThatHeedsSetKnownWrong)

end Rows
end Go.Proofs.Qxb6618472a
