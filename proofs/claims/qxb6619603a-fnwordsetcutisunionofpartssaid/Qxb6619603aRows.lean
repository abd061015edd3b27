/-
  No cell of these rows narrows 'for every input' (looked for: loops, veiled, ifaces, maps, wideKeys, modest, calm, conditions, laid).
  DERIVED. THE GIVEN ROWS OF THIS SEAT. 2 by the template 'for every input the law returns true; each argument reads behind the call as it read before'; 0 by the template 'total and deterministic' (their statements: Qxb6619603aTotals.lean).
  GIVEN WITH THE SEED: the statements are not yours to turn. If you find one false, say at which input.
  Laid BY PROGRAM, IN A SANDBOX (cutbox-rows.mjs): the forced cells as the released guide's own fill.sh prints them over the translation 3f4ceb71274b9ca1… (all of the seat's roots in one cut). By AI agents, Wed Nov 11 2026. No macro, syntax, notation, axiom, sorry.
-/
import Derived.Test.Qxb6619603aChecked
import GoSem.Claim
import GoSem.ClaimJoined
import GoSem.ClaimMapViews
import Derived.JoinedTies
import Derived.KernelRfl
namespace Go.Proofs.Qxb6619603a
/- THE CELL 'sum', in the pinned program and in every row, IS THE sha256 OF THE DUMP (.gsa) THAT Qxb6619603aProg.lean LOADS. Nothing in Lean hashes anything: it is a label: what it is worth is what the hold of that sum in a sandbox is worth. -/
noncomputable def Try.pinned : Pinned := { name := "qxb6619603a", sum := "3f4ceb71274b9ca10f2e9de58e1ca7a36ef1d13ac75a8970194e86693fce3349", checked := Try.checked }
namespace Rows
def none {H : Type} : Left H := { results := [], args := [] }

/-- 'zzlaws_pkg_dayfile_b1.FnWordSetCutIsUnionOfParts': WHATEVER THE INPUT: true; the input reads as it did. -/
def fnWordSetCutIsUnionOfPartsSpec : ChangeSpec := { name := "fnWordSetCutIsUnionOfParts", fn := fun _ => fun
  | [d1, d2, d3] => { results := [.lit (.bool true)], args := [d1, d2, d3] }
  | _ => none }
def fnWordSetCutIsUnionOfPartsRow : OpenClaim := { program := "qxb6619603a", sum := "3f4ceb71274b9ca10f2e9de58e1ca7a36ef1d13ac75a8970194e86693fce3349", func := "example.com/tuoguan/tuoguan/zzlaws_pkg_dayfile_b1.FnWordSetCutIsUnionOfParts", spec := "fnWordSetCutIsUnionOfParts", apart := false }
def FnWordSetCutIsUnionOfPartsSaid : Prop := fnWordSetCutIsUnionOfPartsRow.holds Try.pinned (OpenSpec.ofChange fnWordSetCutIsUnionOfPartsSpec)

/-- ITS FALSE NEIGHBOUR: 'it returns false'. Refute it at one input. -/
def fnWordSetCutIsUnionOfPartsWrong : ChangeSpec := { name := "fnWordSetCutIsUnionOfParts", fn := fun _ => fun
  | [d1, d2, d3] => { results := [.lit (.bool false)], args := [d1, d2, d3] }
  | _ => none }
def FnWordSetCutIsUnionOfPartsWrongFalsely : Prop := fnWordSetCutIsUnionOfPartsRow.holds Try.pinned (OpenSpec.ofChange fnWordSetCutIsUnionOfPartsWrong)

/-- 'zzlaws_pkg_dayfile_b1.FnWordSetIgnoresOrderAndRepeats': WHATEVER THE INPUT: true; the input reads as it did. -/
def fnWordSetIgnoresOrderAndRepeatsSpec : ChangeSpec := { name := "fnWordSetIgnoresOrderAndRepeats", fn := fun _ => fun
  | [d1, d2] => { results := [.lit (.bool true)], args := [d1, d2] }
  | _ => none }
def fnWordSetIgnoresOrderAndRepeatsRow : OpenClaim := { program := "qxb6619603a", sum := "3f4ceb71274b9ca10f2e9de58e1ca7a36ef1d13ac75a8970194e86693fce3349", func := "example.com/tuoguan/tuoguan/zzlaws_pkg_dayfile_b1.FnWordSetIgnoresOrderAndRepeats", spec := "fnWordSetIgnoresOrderAndRepeats", apart := false }
def FnWordSetIgnoresOrderAndRepeatsSaid : Prop := fnWordSetIgnoresOrderAndRepeatsRow.holds Try.pinned (OpenSpec.ofChange fnWordSetIgnoresOrderAndRepeatsSpec)

/-- ITS FALSE NEIGHBOUR: 'it returns false'. Refute it at one input. -/
def fnWordSetIgnoresOrderAndRepeatsWrong : ChangeSpec := { name := "fnWordSetIgnoresOrderAndRepeats", fn := fun _ => fun
  | [d1, d2] => { results := [.lit (.bool false)], args := [d1, d2] }
  | _ => none }
def FnWordSetIgnoresOrderAndRepeatsWrongFalsely : Prop := fnWordSetIgnoresOrderAndRepeatsRow.holds Try.pinned (OpenSpec.ofChange fnWordSetIgnoresOrderAndRepeatsWrong)

end Rows
end Go.Proofs.Qxb6619603a
