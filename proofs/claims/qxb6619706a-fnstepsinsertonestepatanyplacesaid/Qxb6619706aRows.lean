/-
  No cell of these rows narrows 'for every input' (looked for: loops, veiled, ifaces, maps, wideKeys, modest, calm, conditions, laid).
  DERIVED. THE GIVEN ROWS OF THIS SEAT. 2 by the template 'for every input the law returns true; each argument reads behind the call as it read before'; 0 by the template 'total and deterministic' (their statements: Qxb6619706aTotals.lean).
  GIVEN WITH THE SEED: the statements are not yours to turn. If you find one false, say at which input.
  Laid BY PROGRAM, IN A SANDBOX (cutbox-rows.mjs): the forced cells as the released guide's own fill.sh prints them over the translation faaaec97ef14e357… (all of the seat's roots in one cut). By AI agents, Wed Nov 11 2026. No macro, syntax, notation, axiom, sorry.
-/
import Derived.Test.Qxb6619706aChecked
import GoSem.Claim
import GoSem.ClaimJoined
import GoSem.ClaimMapViews
import Derived.JoinedTies
import Derived.KernelRfl
namespace Go.Proofs.Qxb6619706a
/- THE CELL 'sum', in the pinned program and in every row, IS THE sha256 OF THE DUMP (.gsa) THAT Qxb6619706aProg.lean LOADS. Nothing in Lean hashes anything: it is a label: what it is worth is what the hold of that sum in a sandbox is worth. -/
noncomputable def Try.pinned : Pinned := { name := "qxb6619706a", sum := "faaaec97ef14e357e52589bd3421bd32801210baa2dbd46d4858b6f9f75f3469", checked := Try.checked }
namespace Rows
def none {H : Type} : Left H := { results := [], args := [] }

/-- 'zzlaws_demoratest_b1.FnStepsInsertOneStepAtAnyPlace': WHATEVER THE INPUT: true; the input reads as it did. -/
def fnStepsInsertOneStepAtAnyPlaceSpec : ChangeSpec := { name := "fnStepsInsertOneStepAtAnyPlace", fn := fun _ => fun
  | [d1, d2, d3, d4, d5, d6, d7] => { results := [.lit (.bool true)], args := [d1, d2, d3, d4, d5, d6, d7] }
  | _ => none }
def fnStepsInsertOneStepAtAnyPlaceRow : OpenClaim := { program := "qxb6619706a", sum := "faaaec97ef14e357e52589bd3421bd32801210baa2dbd46d4858b6f9f75f3469", func := "example.com/demora/demora/zzlaws_demoratest_b1.FnStepsInsertOneStepAtAnyPlace", spec := "fnStepsInsertOneStepAtAnyPlace", apart := false }
def FnStepsInsertOneStepAtAnyPlaceSaid : Prop := fnStepsInsertOneStepAtAnyPlaceRow.holds Try.pinned (OpenSpec.ofChange fnStepsInsertOneStepAtAnyPlaceSpec)

/-- ITS FALSE NEIGHBOUR: 'it returns false'. Refute it at one input. -/
def fnStepsInsertOneStepAtAnyPlaceWrong : ChangeSpec := { name := "fnStepsInsertOneStepAtAnyPlace", fn := fun _ => fun
  | [d1, d2, d3, d4, d5, d6, d7] => { results := [.lit (.bool false)], args := [d1, d2, d3, d4, d5, d6, d7] }
  | _ => none }
def FnStepsInsertOneStepAtAnyPlaceWrongFalsely : Prop := fnStepsInsertOneStepAtAnyPlaceRow.holds Try.pinned (OpenSpec.ofChange fnStepsInsertOneStepAtAnyPlaceWrong)

/-- 'zzlaws_demoratest_b1.FnStepsGivesAFreshListEachCall': WHATEVER THE INPUT: true; the input reads as it did. -/
def fnStepsGivesAFreshListEachCallSpec : ChangeSpec := { name := "fnStepsGivesAFreshListEachCall", fn := fun _ => fun
  | [d1, d2, d3, d4] => { results := [.lit (.bool true)], args := [d1, d2, d3, d4] }
  | _ => none }
def fnStepsGivesAFreshListEachCallRow : OpenClaim := { program := "qxb6619706a", sum := "faaaec97ef14e357e52589bd3421bd32801210baa2dbd46d4858b6f9f75f3469", func := "example.com/demora/demora/zzlaws_demoratest_b1.FnStepsGivesAFreshListEachCall", spec := "fnStepsGivesAFreshListEachCall", apart := false }
def FnStepsGivesAFreshListEachCallSaid : Prop := fnStepsGivesAFreshListEachCallRow.holds Try.pinned (OpenSpec.ofChange fnStepsGivesAFreshListEachCallSpec)

/-- ITS FALSE NEIGHBOUR: 'it returns false'. Refute it at one input. -/
def fnStepsGivesAFreshListEachCallWrong : ChangeSpec := { name := "fnStepsGivesAFreshListEachCall", fn := fun _ => fun
  | [d1, d2, d3, d4] => { results := [.lit (.bool false)], args := [d1, d2, d3, d4] }
  | _ => none }
def FnStepsGivesAFreshListEachCallWrongFalsely : Prop := fnStepsGivesAFreshListEachCallRow.holds Try.pinned (OpenSpec.ofChange fnStepsGivesAFreshListEachCallWrong)

end Rows
end Go.Proofs.Qxb6619706a
