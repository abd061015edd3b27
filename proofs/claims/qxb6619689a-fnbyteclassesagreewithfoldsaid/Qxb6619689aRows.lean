/-
  No cell of these rows narrows 'for every input' (looked for: loops, veiled, ifaces, maps, wideKeys, modest, calm, conditions, laid).
  DERIVED. THE GIVEN ROWS OF THIS SEAT. 7 by the template 'for every input the law returns true; each argument reads behind the call as it read before'; 0 by the template 'total and deterministic' (their statements: Qxb6619689aTotals.lean).
  GIVEN WITH THE SEED: the statements are not yours to turn. If you find one false, say at which input.
  Laid BY PROGRAM, IN A SANDBOX (cutbox-rows.mjs): the forced cells as the released guide's own fill.sh prints them over the translation 33d4b8c8ed6949a2… (all of the seat's roots in one cut). By AI agents, Wed Nov 11 2026. No macro, syntax, notation, axiom, sorry.
-/
import Derived.Test.Qxb6619689aChecked
import GoSem.Claim
import GoSem.ClaimJoined
import GoSem.ClaimMapViews
import Derived.JoinedTies
import Derived.KernelRfl
namespace Go.Proofs.Qxb6619689a
/- THE CELL 'sum', in the pinned program and in every row, IS THE sha256 OF THE DUMP (.gsa) THAT Qxb6619689aProg.lean LOADS. Nothing in Lean hashes anything: it is a label: what it is worth is what the hold of that sum in a sandbox is worth. -/
noncomputable def Try.pinned : Pinned := { name := "qxb6619689a", sum := "33d4b8c8ed6949a26ab64270c86825fb67c469031e020177fc6c189b64b79eb1", checked := Try.checked }
namespace Rows
def none {H : Type} : Left H := { results := [], args := [] }

/-- 'zzlaws_root_b1.FnByteClassesRoleOfByte': WHATEVER THE INPUT: true; the input reads as it did. -/
def fnByteClassesRoleOfByteSpec : ChangeSpec := { name := "fnByteClassesRoleOfByte", fn := fun _ => fun
  | [d] => { results := [.lit (.bool true)], args := [d] }
  | _ => none }
def fnByteClassesRoleOfByteRow : OpenClaim := { program := "qxb6619689a", sum := "33d4b8c8ed6949a26ab64270c86825fb67c469031e020177fc6c189b64b79eb1", func := "example.com/dialecta/dialecta/zzlaws_root_b1.FnByteClassesRoleOfByte", spec := "fnByteClassesRoleOfByte", apart := false }
def FnByteClassesRoleOfByteSaid : Prop := fnByteClassesRoleOfByteRow.holds Try.pinned (OpenSpec.ofChange fnByteClassesRoleOfByteSpec)

/-- ITS FALSE NEIGHBOUR: 'it returns false'. Refute it at one input. -/
def fnByteClassesRoleOfByteWrong : ChangeSpec := { name := "fnByteClassesRoleOfByte", fn := fun _ => fun
  | [d] => { results := [.lit (.bool false)], args := [d] }
  | _ => none }
def FnByteClassesRoleOfByteWrongFalsely : Prop := fnByteClassesRoleOfByteRow.holds Try.pinned (OpenSpec.ofChange fnByteClassesRoleOfByteWrong)

/-- 'zzlaws_root_b1.FnIndexByteAnswerIsWholeCharacter': WHATEVER THE INPUT: true; the input reads as it did. -/
def fnIndexByteAnswerIsWholeCharacterSpec : ChangeSpec := { name := "fnIndexByteAnswerIsWholeCharacter", fn := fun _ => fun
  | [d1, d2, d3, d4, d5, d6, d7] => { results := [.lit (.bool true)], args := [d1, d2, d3, d4, d5, d6, d7] }
  | _ => none }
def fnIndexByteAnswerIsWholeCharacterRow : OpenClaim := { program := "qxb6619689a", sum := "33d4b8c8ed6949a26ab64270c86825fb67c469031e020177fc6c189b64b79eb1", func := "example.com/dialecta/dialecta/zzlaws_root_b1.FnIndexByteAnswerIsWholeCharacter", spec := "fnIndexByteAnswerIsWholeCharacter", inPlace := ["internal/bytealg.IndexByte"], apart := false }
def FnIndexByteAnswerIsWholeCharacterSaid : Prop := fnIndexByteAnswerIsWholeCharacterRow.holds Try.pinned (OpenSpec.ofChange fnIndexByteAnswerIsWholeCharacterSpec)

/-- ITS FALSE NEIGHBOUR: 'it returns false'. Refute it at one input. -/
def fnIndexByteAnswerIsWholeCharacterWrong : ChangeSpec := { name := "fnIndexByteAnswerIsWholeCharacter", fn := fun _ => fun
  | [d1, d2, d3, d4, d5, d6, d7] => { results := [.lit (.bool false)], args := [d1, d2, d3, d4, d5, d6, d7] }
  | _ => none }
def FnIndexByteAnswerIsWholeCharacterWrongFalsely : Prop := fnIndexByteAnswerIsWholeCharacterRow.holds Try.pinned (OpenSpec.ofChange fnIndexByteAnswerIsWholeCharacterWrong)

/-- 'zzlaws_root_b1.FnIndexByteNoLeadBytesReadsAlone': WHATEVER THE INPUT: true; the input reads as it did. -/
def fnIndexByteNoLeadBytesReadsAloneSpec : ChangeSpec := { name := "fnIndexByteNoLeadBytesReadsAlone", fn := fun _ => fun
  | [d1, d2, d3, d4, d5] => { results := [.lit (.bool true)], args := [d1, d2, d3, d4, d5] }
  | _ => none }
def fnIndexByteNoLeadBytesReadsAloneRow : OpenClaim := { program := "qxb6619689a", sum := "33d4b8c8ed6949a26ab64270c86825fb67c469031e020177fc6c189b64b79eb1", func := "example.com/dialecta/dialecta/zzlaws_root_b1.FnIndexByteNoLeadBytesReadsAlone", spec := "fnIndexByteNoLeadBytesReadsAlone", inPlace := ["internal/bytealg.IndexByte"], apart := false }
def FnIndexByteNoLeadBytesReadsAloneSaid : Prop := fnIndexByteNoLeadBytesReadsAloneRow.holds Try.pinned (OpenSpec.ofChange fnIndexByteNoLeadBytesReadsAloneSpec)

/-- ITS FALSE NEIGHBOUR: 'it returns false'. Refute it at one input. -/
def fnIndexByteNoLeadBytesReadsAloneWrong : ChangeSpec := { name := "fnIndexByteNoLeadBytesReadsAlone", fn := fun _ => fun
  | [d1, d2, d3, d4, d5] => { results := [.lit (.bool false)], args := [d1, d2, d3, d4, d5] }
  | _ => none }
def FnIndexByteNoLeadBytesReadsAloneWrongFalsely : Prop := fnIndexByteNoLeadBytesReadsAloneRow.holds Try.pinned (OpenSpec.ofChange fnIndexByteNoLeadBytesReadsAloneWrong)

/-- 'zzlaws_root_b1.FnClientFoldTableFoldsByte': WHATEVER THE INPUT: true; the input reads as it did. -/
def fnClientFoldTableFoldsByteSpec : ChangeSpec := { name := "fnClientFoldTableFoldsByte", fn := fun _ => fun
  | [d] => { results := [.lit (.bool true)], args := [d] }
  | _ => none }
def fnClientFoldTableFoldsByteRow : OpenClaim := { program := "qxb6619689a", sum := "33d4b8c8ed6949a26ab64270c86825fb67c469031e020177fc6c189b64b79eb1", func := "example.com/dialecta/dialecta/zzlaws_root_b1.FnClientFoldTableFoldsByte", spec := "fnClientFoldTableFoldsByte", apart := false }
def FnClientFoldTableFoldsByteSaid : Prop := fnClientFoldTableFoldsByteRow.holds Try.pinned (OpenSpec.ofChange fnClientFoldTableFoldsByteSpec)

/-- ITS FALSE NEIGHBOUR: 'it returns false'. Refute it at one input. -/
def fnClientFoldTableFoldsByteWrong : ChangeSpec := { name := "fnClientFoldTableFoldsByte", fn := fun _ => fun
  | [d] => { results := [.lit (.bool false)], args := [d] }
  | _ => none }
def FnClientFoldTableFoldsByteWrongFalsely : Prop := fnClientFoldTableFoldsByteRow.holds Try.pinned (OpenSpec.ofChange fnClientFoldTableFoldsByteWrong)

/-- 'zzlaws_root_b1.FnClientFoldTableMergesOnlyLetters': WHATEVER THE INPUT: true; the input reads as it did. -/
def fnClientFoldTableMergesOnlyLettersSpec : ChangeSpec := { name := "fnClientFoldTableMergesOnlyLetters", fn := fun _ => fun
  | [d1, d2] => { results := [.lit (.bool true)], args := [d1, d2] }
  | _ => none }
def fnClientFoldTableMergesOnlyLettersRow : OpenClaim := { program := "qxb6619689a", sum := "33d4b8c8ed6949a26ab64270c86825fb67c469031e020177fc6c189b64b79eb1", func := "example.com/dialecta/dialecta/zzlaws_root_b1.FnClientFoldTableMergesOnlyLetters", spec := "fnClientFoldTableMergesOnlyLetters", apart := false }
def FnClientFoldTableMergesOnlyLettersSaid : Prop := fnClientFoldTableMergesOnlyLettersRow.holds Try.pinned (OpenSpec.ofChange fnClientFoldTableMergesOnlyLettersSpec)

/-- ITS FALSE NEIGHBOUR: 'it returns false'. Refute it at one input. -/
def fnClientFoldTableMergesOnlyLettersWrong : ChangeSpec := { name := "fnClientFoldTableMergesOnlyLetters", fn := fun _ => fun
  | [d1, d2] => { results := [.lit (.bool false)], args := [d1, d2] }
  | _ => none }
def FnClientFoldTableMergesOnlyLettersWrongFalsely : Prop := fnClientFoldTableMergesOnlyLettersRow.holds Try.pinned (OpenSpec.ofChange fnClientFoldTableMergesOnlyLettersWrong)

/-- 'zzlaws_root_b1.FnByteClassesAgreeWithFold': WHATEVER THE INPUT: true; the input reads as it did. -/
def fnByteClassesAgreeWithFoldSpec : ChangeSpec := { name := "fnByteClassesAgreeWithFold", fn := fun _ => fun
  | [d] => { results := [.lit (.bool true)], args := [d] }
  | _ => none }
def fnByteClassesAgreeWithFoldRow : OpenClaim := { program := "qxb6619689a", sum := "33d4b8c8ed6949a26ab64270c86825fb67c469031e020177fc6c189b64b79eb1", func := "example.com/dialecta/dialecta/zzlaws_root_b1.FnByteClassesAgreeWithFold", spec := "fnByteClassesAgreeWithFold", apart := false }
def FnByteClassesAgreeWithFoldSaid : Prop := fnByteClassesAgreeWithFoldRow.holds Try.pinned (OpenSpec.ofChange fnByteClassesAgreeWithFoldSpec)

/-- ITS FALSE NEIGHBOUR: 'it returns false'. Refute it at one input. -/
def fnByteClassesAgreeWithFoldWrong : ChangeSpec := { name := "fnByteClassesAgreeWithFold", fn := fun _ => fun
  | [d] => { results := [.lit (.bool false)], args := [d] }
  | _ => none }
def FnByteClassesAgreeWithFoldWrongFalsely : Prop := fnByteClassesAgreeWithFoldRow.holds Try.pinned (OpenSpec.ofChange fnByteClassesAgreeWithFoldWrong)

/-- 'zzlaws_root_b1.FnIndexByteFindsLoneByte': WHATEVER THE INPUT: true; the input reads as it did. -/
def fnIndexByteFindsLoneByteSpec : ChangeSpec := { name := "fnIndexByteFindsLoneByte", fn := fun _ => fun
  | [d1, d2, d3, d4, d5, d6, d7] => { results := [.lit (.bool true)], args := [d1, d2, d3, d4, d5, d6, d7] }
  | _ => none }
def fnIndexByteFindsLoneByteRow : OpenClaim := { program := "qxb6619689a", sum := "33d4b8c8ed6949a26ab64270c86825fb67c469031e020177fc6c189b64b79eb1", func := "example.com/dialecta/dialecta/zzlaws_root_b1.FnIndexByteFindsLoneByte", spec := "fnIndexByteFindsLoneByte", inPlace := ["internal/bytealg.IndexByte"], apart := false }
def FnIndexByteFindsLoneByteSaid : Prop := fnIndexByteFindsLoneByteRow.holds Try.pinned (OpenSpec.ofChange fnIndexByteFindsLoneByteSpec)

/-- ITS FALSE NEIGHBOUR: 'it returns false'. Refute it at one input. -/
def fnIndexByteFindsLoneByteWrong : ChangeSpec := { name := "fnIndexByteFindsLoneByte", fn := fun _ => fun
  | [d1, d2, d3, d4, d5, d6, d7] => { results := [.lit (.bool false)], args := [d1, d2, d3, d4, d5, d6, d7] }
  | _ => none }
def FnIndexByteFindsLoneByteWrongFalsely : Prop := fnIndexByteFindsLoneByteRow.holds Try.pinned (OpenSpec.ofChange fnIndexByteFindsLoneByteWrong)

end Rows
end Go.Proofs.Qxb6619689a
