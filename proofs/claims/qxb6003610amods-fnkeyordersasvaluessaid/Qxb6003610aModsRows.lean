/-
  No cell of these rows narrows 'for every input' (looked for: loops, veiled, ifaces, maps, wideKeys, modest, calm, conditions, laid).
  DERIVED. THE GIVEN ROWS OF THIS SEAT. 3 by the template 'for every input the law returns true; each argument reads behind the call as it read before'; 0 by the template 'total and deterministic' (their statements: Qxb6003610aModsTotals.lean).
  GIVEN WITH THE SEED: the statements are not yours to turn. If you find one false, say at which input.
  Laid BY PROGRAM, IN A SANDBOX (cutbox-rows.mjs): the forced cells as the released guide's own fill.sh prints them over the translation 7596b1b28d7dedfd… (all of the seat's roots in one cut). By AI agents, Wed Nov 11 2026. No macro, syntax, notation, axiom, sorry.
-/
import Derived.Test.Qxb6003610aModsChecked
import GoSem.Claim
import GoSem.ClaimJoined
import GoSem.ClaimMapViews
import Derived.JoinedTies
import Derived.KernelRfl
namespace Go.Proofs.Qxb6003610aMods
/- THE CELL 'sum', in the pinned program and in every row, IS THE sha256 OF THE DUMP (.gsa) THAT Qxb6003610aModsProg.lean LOADS. Nothing in Lean hashes anything: it is a label: what it is worth is what the hold of that sum in a sandbox is worth. -/
noncomputable def Trym.pinned : Pinned := { name := "qxb6003610amods", sum := "7596b1b28d7dedfd8c5ed7a278a9f35f04b69be1d7e8bf3ac42c05c842c85399", checked := Trym.checked }
namespace Rows
def none {H : Type} : Left H := { results := [], args := [] }

/-- 'zzlaws_internal_limit_b1.FnReadNumberMatchesGrammarModel': WHATEVER THE INPUT: true; the input reads as it did. -/
def fnReadNumberMatchesGrammarModelSpec : ChangeSpec := { name := "fnReadNumberMatchesGrammarModel", fn := fun _ => fun
  | [d] => { results := [.lit (.bool true)], args := [d] }
  | _ => none }
def fnReadNumberMatchesGrammarModelRow : OpenClaim := { program := "qxb6003610amods", sum := "7596b1b28d7dedfd8c5ed7a278a9f35f04b69be1d7e8bf3ac42c05c842c85399", func := "example.com/lone-table/lone-table/zzlaws_internal_limit_b1.FnReadNumberMatchesGrammarModel", spec := "fnReadNumberMatchesGrammarModel", make := .lifted ["publicsums"], apart := false }
def FnReadNumberMatchesGrammarModelSaid : Prop := fnReadNumberMatchesGrammarModelRow.holds Trym.pinned (OpenSpec.ofChange fnReadNumberMatchesGrammarModelSpec)

/-- ITS FALSE NEIGHBOUR: 'it returns false'. Refute it at one input. -/
def fnReadNumberMatchesGrammarModelWrong : ChangeSpec := { name := "fnReadNumberMatchesGrammarModel", fn := fun _ => fun
  | [d] => { results := [.lit (.bool false)], args := [d] }
  | _ => none }
def FnReadNumberMatchesGrammarModelWrongFalsely : Prop := fnReadNumberMatchesGrammarModelRow.holds Trym.pinned (OpenSpec.ofChange fnReadNumberMatchesGrammarModelWrong)

/-- 'zzlaws_internal_limit_b1.FnAppendWritesWhatReadNumberReadsBack': WHATEVER THE INPUT: true; the input reads as it did. -/
def fnAppendWritesWhatReadNumberReadsBackSpec : ChangeSpec := { name := "fnAppendWritesWhatReadNumberReadsBack", fn := fun _ => fun
  | [d1, d2, d3, d4] => { results := [.lit (.bool true)], args := [d1, d2, d3, d4] }
  | _ => none }
def fnAppendWritesWhatReadNumberReadsBackRow : OpenClaim := { program := "qxb6003610amods", sum := "7596b1b28d7dedfd8c5ed7a278a9f35f04b69be1d7e8bf3ac42c05c842c85399", func := "example.com/lone-table/lone-table/zzlaws_internal_limit_b1.FnAppendWritesWhatReadNumberReadsBack", spec := "fnAppendWritesWhatReadNumberReadsBack", make := .lifted ["publicsums"], apart := false }
def FnAppendWritesWhatReadNumberReadsBackSaid : Prop := fnAppendWritesWhatReadNumberReadsBackRow.holds Trym.pinned (OpenSpec.ofChange fnAppendWritesWhatReadNumberReadsBackSpec)

/-- ITS FALSE NEIGHBOUR: 'it returns false'. Refute it at one input. -/
def fnAppendWritesWhatReadNumberReadsBackWrong : ChangeSpec := { name := "fnAppendWritesWhatReadNumberReadsBack", fn := fun _ => fun
  | [d1, d2, d3, d4] => { results := [.lit (.bool false)], args := [d1, d2, d3, d4] }
  | _ => none }
def FnAppendWritesWhatReadNumberReadsBackWrongFalsely : Prop := fnAppendWritesWhatReadNumberReadsBackRow.holds Trym.pinned (OpenSpec.ofChange fnAppendWritesWhatReadNumberReadsBackWrong)

/-- 'zzlaws_internal_limit_b1.FnKeyOrdersAsValues': WHATEVER THE INPUT: true; the input reads as it did. -/
def fnKeyOrdersAsValuesSpec : ChangeSpec := { name := "fnKeyOrdersAsValues", fn := fun _ => fun
  | [d1, d2, d3, d4, d5, d6] => { results := [.lit (.bool true)], args := [d1, d2, d3, d4, d5, d6] }
  | _ => none }
def fnKeyOrdersAsValuesRow : OpenClaim := { program := "qxb6003610amods", sum := "7596b1b28d7dedfd8c5ed7a278a9f35f04b69be1d7e8bf3ac42c05c842c85399", func := "example.com/lone-table/lone-table/zzlaws_internal_limit_b1.FnKeyOrdersAsValues", spec := "fnKeyOrdersAsValues", make := .lifted ["publicsums"], apart := false }
def FnKeyOrdersAsValuesSaid : Prop := fnKeyOrdersAsValuesRow.holds Trym.pinned (OpenSpec.ofChange fnKeyOrdersAsValuesSpec)

/-- ITS FALSE NEIGHBOUR: 'it returns false'. Refute it at one input. -/
def fnKeyOrdersAsValuesWrong : ChangeSpec := { name := "fnKeyOrdersAsValues", fn := fun _ => fun
  | [d1, d2, d3, d4, d5, d6] => { results := [.lit (.bool false)], args := [d1, d2, d3, d4, d5, d6] }
  | _ => none }
def FnKeyOrdersAsValuesWrongFalsely : Prop := fnKeyOrdersAsValuesRow.holds Trym.pinned (OpenSpec.ofChange fnKeyOrdersAsValuesWrong)

end Rows
end Go.Proofs.Qxb6003610aMods
