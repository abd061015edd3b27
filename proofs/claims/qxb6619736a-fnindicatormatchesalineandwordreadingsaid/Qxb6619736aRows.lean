/-
  No cell of these rows narrows 'for every input' (looked for: loops, veiled, ifaces, maps, wideKeys, modest, calm, conditions, laid).
  DERIVED. THE GIVEN ROWS OF THIS SEAT. 1 by the template 'for every input the law returns true; each argument reads behind the call as it read before'; 0 by the template 'total and deterministic' (their statements: Qxb6619736aTotals.lean).
  GIVEN WITH THE SEED: the statements are not yours to turn. If you find one false, say at which input.
  Laid BY PROGRAM, IN A SANDBOX (cutbox-rows.mjs): the forced cells as the released guide's own fill.sh prints them over the translation 646b93ce7606c3cb… (all of the seat's roots in one cut). By AI agents, Wed Nov 11 2026. No macro, syntax, notation, axiom, sorry.
-/
import Derived.Test.Qxb6619736aChecked
import GoSem.Claim
import GoSem.ClaimJoined
import GoSem.ClaimMapViews
import Derived.JoinedTies
import Derived.KernelRfl
namespace Go.Proofs.Qxb6619736a
/- THE CELL 'sum', in the pinned program and in every row, IS THE sha256 OF THE DUMP (.gsa) THAT Qxb6619736aProg.lean LOADS. Nothing in Lean hashes anything: it is a label: what it is worth is what the hold of that sum in a sandbox is worth. -/
noncomputable def Try.pinned : Pinned := { name := "qxb6619736a", sum := "646b93ce7606c3cb3871950185b46230805563f6e52577e1d923a7475689f23f", checked := Try.checked }
namespace Rows
def none {H : Type} : Left H := { results := [], args := [] }

/-- 'zzlaws_pkg_yamldoc_b1.FnIndicatorMatchesALineAndWordReading': WHATEVER THE INPUT: true; the input reads as it did. -/
def fnIndicatorMatchesALineAndWordReadingSpec : ChangeSpec := { name := "fnIndicatorMatchesALineAndWordReading", fn := fun _ => fun
  | [d1, d2] => { results := [.lit (.bool true)], args := [d1, d2] }
  | _ => none }
def fnIndicatorMatchesALineAndWordReadingRow : OpenClaim := { program := "qxb6619736a", sum := "646b93ce7606c3cb3871950185b46230805563f6e52577e1d923a7475689f23f", func := "example.com/enodia/enodia/zzlaws_pkg_yamldoc_b1.FnIndicatorMatchesALineAndWordReading", spec := "fnIndicatorMatchesALineAndWordReading", apart := false }
def FnIndicatorMatchesALineAndWordReadingSaid : Prop := fnIndicatorMatchesALineAndWordReadingRow.holds Try.pinned (OpenSpec.ofChange fnIndicatorMatchesALineAndWordReadingSpec)

/-- ITS FALSE NEIGHBOUR: 'it returns false'. Refute it at one input. -/
def fnIndicatorMatchesALineAndWordReadingWrong : ChangeSpec := { name := "fnIndicatorMatchesALineAndWordReading", fn := fun _ => fun
  | [d1, d2] => { results := [.lit (.bool false)], args := [d1, d2] }
  | _ => none }
def FnIndicatorMatchesALineAndWordReadingWrongFalsely : Prop := fnIndicatorMatchesALineAndWordReadingRow.holds Try.pinned (OpenSpec.ofChange fnIndicatorMatchesALineAndWordReadingWrong)

end Rows
end Go.Proofs.Qxb6619736a
