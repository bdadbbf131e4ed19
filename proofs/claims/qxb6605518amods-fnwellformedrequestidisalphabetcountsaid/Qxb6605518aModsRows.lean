/-
  No cell of these rows narrows 'for every input' (looked for: loops, veiled, ifaces, maps, wideKeys, modest, calm, conditions, laid).
  DERIVED. THE GIVEN ROWS OF THIS SEAT. 5 by the template 'for every input the law returns true; each argument reads behind the call as it read before'; 0 by the template 'total and deterministic' (their statements: Qxb6605518aModsTotals.lean).
  GIVEN WITH THE SEED: the statements are not yours to turn. If you find one false, say at which input.
  Laid BY PROGRAM, IN A SANDBOX (cutbox-rows.mjs): the forced cells as the released guide's own fill.sh prints them over the translation f8eab567f64195a5… (all of the seat's roots in one cut). By AI agents, Wed Nov 11 2026. No macro, syntax, notation, axiom, sorry.
-/
import Derived.Test.Qxb6605518aModsChecked
import GoSem.Claim
import GoSem.ClaimJoined
import GoSem.ClaimMapViews
import Derived.JoinedTies
import Derived.KernelRfl
namespace Go.Proofs.Qxb6605518aMods
/- THE CELL 'sum', in the pinned program and in every row, IS THE sha256 OF THE DUMP (.gsa) THAT Qxb6605518aModsProg.lean LOADS. Nothing in Lean hashes anything: it is a label: what it is worth is what the hold of that sum in a sandbox is worth. -/
noncomputable def Trym.pinned : Pinned := { name := "qxb6605518amods", sum := "f8eab567f64195a5b27d8571ecf1dad9ba65aecc5f123a9efa0cb106c08d208d", checked := Trym.checked }
namespace Rows
def none {H : Type} : Left H := { results := [], args := [] }

/-- 'zzlaws_api_b1.FnWellFormedRequestIDIsAlphabetCount': WHATEVER THE INPUT: true; the input reads as it did. -/
def fnWellFormedRequestIDIsAlphabetCountSpec : ChangeSpec := { name := "fnWellFormedRequestIDIsAlphabetCount", fn := fun _ => fun
  | [d] => { results := [.lit (.bool true)], args := [d] }
  | _ => none }
def fnWellFormedRequestIDIsAlphabetCountRow : OpenClaim := { program := "qxb6605518amods", sum := "f8eab567f64195a5b27d8571ecf1dad9ba65aecc5f123a9efa0cb106c08d208d", func := "example.com/strict-enroll/strict-enroll/zzlaws_api_b1.FnWellFormedRequestIDIsAlphabetCount", spec := "fnWellFormedRequestIDIsAlphabetCount", make := .lifted ["publicsums"], apart := false }
def FnWellFormedRequestIDIsAlphabetCountSaid : Prop := fnWellFormedRequestIDIsAlphabetCountRow.holds Trym.pinned (OpenSpec.ofChange fnWellFormedRequestIDIsAlphabetCountSpec)

/-- ITS FALSE NEIGHBOUR: 'it returns false'. Refute it at one input. -/
def fnWellFormedRequestIDIsAlphabetCountWrong : ChangeSpec := { name := "fnWellFormedRequestIDIsAlphabetCount", fn := fun _ => fun
  | [d] => { results := [.lit (.bool false)], args := [d] }
  | _ => none }
def FnWellFormedRequestIDIsAlphabetCountWrongFalsely : Prop := fnWellFormedRequestIDIsAlphabetCountRow.holds Trym.pinned (OpenSpec.ofChange fnWellFormedRequestIDIsAlphabetCountWrong)

/-- 'zzlaws_api_b1.FnWellFormedRequestIDGluesWithinLimit': WHATEVER THE INPUT: true; the input reads as it did. -/
def fnWellFormedRequestIDGluesWithinLimitSpec : ChangeSpec := { name := "fnWellFormedRequestIDGluesWithinLimit", fn := fun _ => fun
  | [d1, d2] => { results := [.lit (.bool true)], args := [d1, d2] }
  | _ => none }
def fnWellFormedRequestIDGluesWithinLimitRow : OpenClaim := { program := "qxb6605518amods", sum := "f8eab567f64195a5b27d8571ecf1dad9ba65aecc5f123a9efa0cb106c08d208d", func := "example.com/strict-enroll/strict-enroll/zzlaws_api_b1.FnWellFormedRequestIDGluesWithinLimit", spec := "fnWellFormedRequestIDGluesWithinLimit", make := .lifted ["publicsums"], apart := false }
def FnWellFormedRequestIDGluesWithinLimitSaid : Prop := fnWellFormedRequestIDGluesWithinLimitRow.holds Trym.pinned (OpenSpec.ofChange fnWellFormedRequestIDGluesWithinLimitSpec)

/-- ITS FALSE NEIGHBOUR: 'it returns false'. Refute it at one input. -/
def fnWellFormedRequestIDGluesWithinLimitWrong : ChangeSpec := { name := "fnWellFormedRequestIDGluesWithinLimit", fn := fun _ => fun
  | [d1, d2] => { results := [.lit (.bool false)], args := [d1, d2] }
  | _ => none }
def FnWellFormedRequestIDGluesWithinLimitWrongFalsely : Prop := fnWellFormedRequestIDGluesWithinLimitRow.holds Trym.pinned (OpenSpec.ofChange fnWellFormedRequestIDGluesWithinLimitWrong)

/-- 'zzlaws_api_b1.FnSpacedLaysScopesAtOffsets': WHATEVER THE INPUT: true; the input reads as it did. -/
def fnSpacedLaysScopesAtOffsetsSpec : ChangeSpec := { name := "fnSpacedLaysScopesAtOffsets", fn := fun _ => fun
  | [d] => { results := [.lit (.bool true)], args := [d] }
  | _ => none }
def fnSpacedLaysScopesAtOffsetsRow : OpenClaim := { program := "qxb6605518amods", sum := "f8eab567f64195a5b27d8571ecf1dad9ba65aecc5f123a9efa0cb106c08d208d", func := "example.com/strict-enroll/strict-enroll/zzlaws_api_b1.FnSpacedLaysScopesAtOffsets", spec := "fnSpacedLaysScopesAtOffsets", inPlace := ["internal/abi.NoEscape", "internal/bytealg.MakeNoZero"], make := .lifted ["publicsums"], apart := false }
def FnSpacedLaysScopesAtOffsetsSaid : Prop := fnSpacedLaysScopesAtOffsetsRow.holds Trym.pinned (OpenSpec.ofChange fnSpacedLaysScopesAtOffsetsSpec)

/-- ITS FALSE NEIGHBOUR: 'it returns false'. Refute it at one input. -/
def fnSpacedLaysScopesAtOffsetsWrong : ChangeSpec := { name := "fnSpacedLaysScopesAtOffsets", fn := fun _ => fun
  | [d] => { results := [.lit (.bool false)], args := [d] }
  | _ => none }
def FnSpacedLaysScopesAtOffsetsWrongFalsely : Prop := fnSpacedLaysScopesAtOffsetsRow.holds Trym.pinned (OpenSpec.ofChange fnSpacedLaysScopesAtOffsetsWrong)

/-- 'zzlaws_api_b1.FnSpacedSplitsBackOnSpaces': WHATEVER THE INPUT: true; the input reads as it did. -/
def fnSpacedSplitsBackOnSpacesSpec : ChangeSpec := { name := "fnSpacedSplitsBackOnSpaces", fn := fun _ => fun
  | [d] => { results := [.lit (.bool true)], args := [d] }
  | _ => none }
def fnSpacedSplitsBackOnSpacesRow : OpenClaim := { program := "qxb6605518amods", sum := "f8eab567f64195a5b27d8571ecf1dad9ba65aecc5f123a9efa0cb106c08d208d", func := "example.com/strict-enroll/strict-enroll/zzlaws_api_b1.FnSpacedSplitsBackOnSpaces", spec := "fnSpacedSplitsBackOnSpaces", inPlace := ["internal/abi.NoEscape", "internal/bytealg.MakeNoZero"], make := .lifted ["publicsums"], apart := false }
def FnSpacedSplitsBackOnSpacesSaid : Prop := fnSpacedSplitsBackOnSpacesRow.holds Trym.pinned (OpenSpec.ofChange fnSpacedSplitsBackOnSpacesSpec)

/-- ITS FALSE NEIGHBOUR: 'it returns false'. Refute it at one input. -/
def fnSpacedSplitsBackOnSpacesWrong : ChangeSpec := { name := "fnSpacedSplitsBackOnSpaces", fn := fun _ => fun
  | [d] => { results := [.lit (.bool false)], args := [d] }
  | _ => none }
def FnSpacedSplitsBackOnSpacesWrongFalsely : Prop := fnSpacedSplitsBackOnSpacesRow.holds Trym.pinned (OpenSpec.ofChange fnSpacedSplitsBackOnSpacesWrong)

/-- 'zzlaws_api_b1.FnSpacedJoinsConcatenation': WHATEVER THE INPUT: true; the input reads as it did. -/
def fnSpacedJoinsConcatenationSpec : ChangeSpec := { name := "fnSpacedJoinsConcatenation", fn := fun _ => fun
  | [d1, d2] => { results := [.lit (.bool true)], args := [d1, d2] }
  | _ => none }
def fnSpacedJoinsConcatenationRow : OpenClaim := { program := "qxb6605518amods", sum := "f8eab567f64195a5b27d8571ecf1dad9ba65aecc5f123a9efa0cb106c08d208d", func := "example.com/strict-enroll/strict-enroll/zzlaws_api_b1.FnSpacedJoinsConcatenation", spec := "fnSpacedJoinsConcatenation", inPlace := ["internal/abi.NoEscape", "internal/bytealg.MakeNoZero"], make := .lifted ["publicsums"], apart := false }
def FnSpacedJoinsConcatenationSaid : Prop := fnSpacedJoinsConcatenationRow.holds Trym.pinned (OpenSpec.ofChange fnSpacedJoinsConcatenationSpec)

/-- ITS FALSE NEIGHBOUR: 'it returns false'. Refute it at one input. -/
def fnSpacedJoinsConcatenationWrong : ChangeSpec := { name := "fnSpacedJoinsConcatenation", fn := fun _ => fun
  | [d1, d2] => { results := [.lit (.bool false)], args := [d1, d2] }
  | _ => none }
def FnSpacedJoinsConcatenationWrongFalsely : Prop := fnSpacedJoinsConcatenationRow.holds Trym.pinned (OpenSpec.ofChange fnSpacedJoinsConcatenationWrong)

end Rows
end Go.Proofs.Qxb6605518aMods
