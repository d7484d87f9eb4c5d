/-
  No cell of these rows narrows 'for every input' (looked for: loops, veiled, ifaces, maps, wideKeys, modest, calm, conditions, laid).
  DERIVED. THE GIVEN ROWS OF THIS SEAT. 2 by the template 'for every input the law returns true; each argument reads behind the call as it read before'; 0 by the template 'total and deterministic' (their statements: Qxb6619510aTotals.lean).
  GIVEN WITH THE SEED: the statements are not yours to turn. If you find one false, say at which input.
  Laid BY PROGRAM, IN A SANDBOX (cutbox-rows.mjs): the forced cells as the released guide's own fill.sh prints them over the translation e7a41ed6c6794173… (all of the seat's roots in one cut). By AI agents, Wed Nov 11 2026. No macro, syntax, notation, axiom, sorry.
-/
import Derived.Test.Qxb6619510aChecked
import GoSem.Claim
import GoSem.ClaimJoined
import GoSem.ClaimMapViews
import Derived.JoinedTies
import Derived.KernelRfl
namespace Go.Proofs.Qxb6619510a
/- THE CELL 'sum', in the pinned program and in every row, IS THE sha256 OF THE DUMP (.gsa) THAT Qxb6619510aProg.lean LOADS. Nothing in Lean hashes anything: it is a label: what it is worth is what the hold of that sum in a sandbox is worth. -/
noncomputable def Try.pinned : Pinned := { name := "qxb6619510a", sum := "e7a41ed6c6794173f58eeb611fc5d0a44815443863f796dc697000263a67aba3", checked := Try.checked }
namespace Rows
def none {H : Type} : Left H := { results := [], args := [] }

/-- 'zzlaws_root_b1.FnJavaPatternCharsMatchesSegmentModel': WHATEVER THE INPUT: true; the input reads as it did. -/
def fnJavaPatternCharsMatchesSegmentModelSpec : ChangeSpec := { name := "fnJavaPatternCharsMatchesSegmentModel", fn := fun _ => fun
  | [d] => { results := [.lit (.bool true)], args := [d] }
  | _ => none }
def fnJavaPatternCharsMatchesSegmentModelRow : OpenClaim := { program := "qxb6619510a", sum := "e7a41ed6c6794173f58eeb611fc5d0a44815443863f796dc697000263a67aba3", func := "example.com/text-to-tree/text-to-tree/zzlaws_root_b1.FnJavaPatternCharsMatchesSegmentModel", spec := "fnJavaPatternCharsMatchesSegmentModel", apart := false }
def FnJavaPatternCharsMatchesSegmentModelSaid : Prop := fnJavaPatternCharsMatchesSegmentModelRow.holds Try.pinned (OpenSpec.ofChange fnJavaPatternCharsMatchesSegmentModelSpec)

/-- ITS FALSE NEIGHBOUR: 'it returns false'. Refute it at one input. -/
def fnJavaPatternCharsMatchesSegmentModelWrong : ChangeSpec := { name := "fnJavaPatternCharsMatchesSegmentModel", fn := fun _ => fun
  | [d] => { results := [.lit (.bool false)], args := [d] }
  | _ => none }
def FnJavaPatternCharsMatchesSegmentModelWrongFalsely : Prop := fnJavaPatternCharsMatchesSegmentModelRow.holds Try.pinned (OpenSpec.ofChange fnJavaPatternCharsMatchesSegmentModelWrong)

/-- 'zzlaws_root_b1.FnJavaPatternCharsSplitAfterPlainPrefix': WHATEVER THE INPUT: true; the input reads as it did. -/
def fnJavaPatternCharsSplitAfterPlainPrefixSpec : ChangeSpec := { name := "fnJavaPatternCharsSplitAfterPlainPrefix", fn := fun _ => fun
  | [d1, d2] => { results := [.lit (.bool true)], args := [d1, d2] }
  | _ => none }
def fnJavaPatternCharsSplitAfterPlainPrefixRow : OpenClaim := { program := "qxb6619510a", sum := "e7a41ed6c6794173f58eeb611fc5d0a44815443863f796dc697000263a67aba3", func := "example.com/text-to-tree/text-to-tree/zzlaws_root_b1.FnJavaPatternCharsSplitAfterPlainPrefix", spec := "fnJavaPatternCharsSplitAfterPlainPrefix", apart := false }
def FnJavaPatternCharsSplitAfterPlainPrefixSaid : Prop := fnJavaPatternCharsSplitAfterPlainPrefixRow.holds Try.pinned (OpenSpec.ofChange fnJavaPatternCharsSplitAfterPlainPrefixSpec)

/-- ITS FALSE NEIGHBOUR: 'it returns false'. Refute it at one input. -/
def fnJavaPatternCharsSplitAfterPlainPrefixWrong : ChangeSpec := { name := "fnJavaPatternCharsSplitAfterPlainPrefix", fn := fun _ => fun
  | [d1, d2] => { results := [.lit (.bool false)], args := [d1, d2] }
  | _ => none }
def FnJavaPatternCharsSplitAfterPlainPrefixWrongFalsely : Prop := fnJavaPatternCharsSplitAfterPlainPrefixRow.holds Try.pinned (OpenSpec.ofChange fnJavaPatternCharsSplitAfterPlainPrefixWrong)

end Rows
end Go.Proofs.Qxb6619510a
