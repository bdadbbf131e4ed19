/-
  No cell of these rows narrows 'for every input' (looked for: loops, veiled, ifaces, maps, wideKeys, modest, calm, conditions, laid).
  DERIVED. THE GIVEN ROWS OF THIS SEAT. 2 by the template 'for every input the law returns true; each argument reads behind the call as it read before'; 0 by the template 'total and deterministic' (their statements: Qxb6605585aModsTotals.lean).
  GIVEN WITH THE SEED: the statements are not yours to turn. If you find one false, say at which input.
  Laid BY PROGRAM, IN A SANDBOX (cutbox-rows.mjs): the forced cells as the released guide's own fill.sh prints them over the translation 04565036f65e3f1f… (all of the seat's roots in one cut). By AI agents, Wed Nov 11 2026. No macro, syntax, notation, axiom, sorry.
-/
import Derived.Test.Qxb6605585aModsChecked
import GoSem.Claim
import GoSem.ClaimJoined
import GoSem.ClaimMapViews
import Derived.JoinedTies
import Derived.KernelRfl
namespace Go.Proofs.Qxb6605585aMods
/- THE CELL 'sum', in the pinned program and in every row, IS THE sha256 OF THE DUMP (.gsa) THAT Qxb6605585aModsProg.lean LOADS. Nothing in Lean hashes anything: it is a label: what it is worth is what the hold of that sum in a sandbox is worth. -/
noncomputable def Trym.pinned : Pinned := { name := "qxb6605585amods", sum := "04565036f65e3f1fa80188d2b9527b5984b7fad2e45ff37259339a2bef534669", checked := Trym.checked }
namespace Rows
def none {H : Type} : Left H := { results := [], args := [] }

/-- 'zzlaws_ledger_b1.FnOrderCapIsLargestWithinShare': WHATEVER THE INPUT: true; the input reads as it did. -/
def fnOrderCapIsLargestWithinShareSpec : ChangeSpec := { name := "fnOrderCapIsLargestWithinShare", fn := fun _ => fun
  | [d1, d2, d3, d4, d5] => { results := [.lit (.bool true)], args := [d1, d2, d3, d4, d5] }
  | _ => none }
def fnOrderCapIsLargestWithinShareRow : OpenClaim := { program := "qxb6605585amods", sum := "04565036f65e3f1fa80188d2b9527b5984b7fad2e45ff37259339a2bef534669", func := "example.com/tallyward/tallyward/zzlaws_ledger_b1.FnOrderCapIsLargestWithinShare", spec := "fnOrderCapIsLargestWithinShare", make := .lifted ["publicsums"], apart := false }
def FnOrderCapIsLargestWithinShareSaid : Prop := fnOrderCapIsLargestWithinShareRow.holds Trym.pinned (OpenSpec.ofChange fnOrderCapIsLargestWithinShareSpec)

/-- ITS FALSE NEIGHBOUR: 'it returns false'. Refute it at one input. -/
def fnOrderCapIsLargestWithinShareWrong : ChangeSpec := { name := "fnOrderCapIsLargestWithinShare", fn := fun _ => fun
  | [d1, d2, d3, d4, d5] => { results := [.lit (.bool false)], args := [d1, d2, d3, d4, d5] }
  | _ => none }
def FnOrderCapIsLargestWithinShareWrongFalsely : Prop := fnOrderCapIsLargestWithinShareRow.holds Trym.pinned (OpenSpec.ofChange fnOrderCapIsLargestWithinShareWrong)

/-- 'zzlaws_ledger_b1.FnMaxPointsIsGreatestAllowed': WHATEVER THE INPUT: true; the input reads as it did. -/
def fnMaxPointsIsGreatestAllowedSpec : ChangeSpec := { name := "fnMaxPointsIsGreatestAllowed", fn := fun _ => fun
  | [d1, d2, d3, d4, d5, d6] => { results := [.lit (.bool true)], args := [d1, d2, d3, d4, d5, d6] }
  | _ => none }
def fnMaxPointsIsGreatestAllowedRow : OpenClaim := { program := "qxb6605585amods", sum := "04565036f65e3f1fa80188d2b9527b5984b7fad2e45ff37259339a2bef534669", func := "example.com/tallyward/tallyward/zzlaws_ledger_b1.FnMaxPointsIsGreatestAllowed", spec := "fnMaxPointsIsGreatestAllowed", make := .lifted ["publicsums"], apart := false }
def FnMaxPointsIsGreatestAllowedSaid : Prop := fnMaxPointsIsGreatestAllowedRow.holds Trym.pinned (OpenSpec.ofChange fnMaxPointsIsGreatestAllowedSpec)

/-- ITS FALSE NEIGHBOUR: 'it returns false'. Refute it at one input. -/
def fnMaxPointsIsGreatestAllowedWrong : ChangeSpec := { name := "fnMaxPointsIsGreatestAllowed", fn := fun _ => fun
  | [d1, d2, d3, d4, d5, d6] => { results := [.lit (.bool false)], args := [d1, d2, d3, d4, d5, d6] }
  | _ => none }
def FnMaxPointsIsGreatestAllowedWrongFalsely : Prop := fnMaxPointsIsGreatestAllowedRow.holds Trym.pinned (OpenSpec.ofChange fnMaxPointsIsGreatestAllowedWrong)

end Rows
end Go.Proofs.Qxb6605585aMods
