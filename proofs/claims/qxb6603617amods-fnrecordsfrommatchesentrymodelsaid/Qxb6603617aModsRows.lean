/-
  No cell of these rows narrows 'for every input' (looked for: loops, veiled, ifaces, maps, wideKeys, modest, calm, conditions, laid).
  DERIVED. THE GIVEN ROWS OF THIS SEAT. 4 by the template 'for every input the law returns true; each argument reads behind the call as it read before'; 0 by the template 'total and deterministic' (their statements: Qxb6603617aModsTotals.lean).
  GIVEN WITH THE SEED: the statements are not yours to turn. If you find one false, say at which input.
  Laid BY PROGRAM, IN A SANDBOX (cutbox-rows.mjs): the forced cells as the released guide's own fill.sh prints them over the translation 06ca66d7187b807f… (all of the seat's roots in one cut). By AI agents, Wed Nov 11 2026. No macro, syntax, notation, axiom, sorry.
-/
import Derived.Test.Qxb6603617aModsChecked
import GoSem.Claim
import GoSem.ClaimJoined
import GoSem.ClaimMapViews
import Derived.JoinedTies
import Derived.KernelRfl
namespace Go.Proofs.Qxb6603617aMods
/- THE CELL 'sum', in the pinned program and in every row, IS THE sha256 OF THE DUMP (.gsa) THAT Qxb6603617aModsProg.lean LOADS. Nothing in Lean hashes anything: it is a label: what it is worth is what the hold of that sum in a sandbox is worth. -/
noncomputable def Trym.pinned : Pinned := { name := "qxb6603617amods", sum := "06ca66d7187b807f87906df903f4211bef4db77a3ce1d81ca1739819a97e0511", checked := Trym.checked }
namespace Rows
def none {H : Type} : Left H := { results := [], args := [] }

/-- 'zzlaws_internal_entry_b1.FnVoterSortedMatchesBinarySearch': WHATEVER THE INPUT: true; the input reads as it did. -/
def fnVoterSortedMatchesBinarySearchSpec : ChangeSpec := { name := "fnVoterSortedMatchesBinarySearch", fn := fun _ => fun
  | [d1, d2] => { results := [.lit (.bool true)], args := [d1, d2] }
  | _ => none }
def fnVoterSortedMatchesBinarySearchRow : OpenClaim := { program := "qxb6603617amods", sum := "06ca66d7187b807f87906df903f4211bef4db77a3ce1d81ca1739819a97e0511", func := "example.com/ledgerline/ledgerline/zzlaws_internal_entry_b1.FnVoterSortedMatchesBinarySearch", spec := "fnVoterSortedMatchesBinarySearch", make := .lifted ["publicsums"], apart := false }
def FnVoterSortedMatchesBinarySearchSaid : Prop := fnVoterSortedMatchesBinarySearchRow.holds Trym.pinned (OpenSpec.ofChange fnVoterSortedMatchesBinarySearchSpec)

/-- ITS FALSE NEIGHBOUR: 'it returns false'. Refute it at one input. -/
def fnVoterSortedMatchesBinarySearchWrong : ChangeSpec := { name := "fnVoterSortedMatchesBinarySearch", fn := fun _ => fun
  | [d1, d2] => { results := [.lit (.bool false)], args := [d1, d2] }
  | _ => none }
def FnVoterSortedMatchesBinarySearchWrongFalsely : Prop := fnVoterSortedMatchesBinarySearchRow.holds Trym.pinned (OpenSpec.ofChange fnVoterSortedMatchesBinarySearchWrong)

/-- 'zzlaws_internal_entry_b1.FnVoterFrontMemberDecides': WHATEVER THE INPUT: true; the input reads as it did. -/
def fnVoterFrontMemberDecidesSpec : ChangeSpec := { name := "fnVoterFrontMemberDecides", fn := fun _ => fun
  | [d1, d2, d3, d4, d5] => { results := [.lit (.bool true)], args := [d1, d2, d3, d4, d5] }
  | _ => none }
def fnVoterFrontMemberDecidesRow : OpenClaim := { program := "qxb6603617amods", sum := "06ca66d7187b807f87906df903f4211bef4db77a3ce1d81ca1739819a97e0511", func := "example.com/ledgerline/ledgerline/zzlaws_internal_entry_b1.FnVoterFrontMemberDecides", spec := "fnVoterFrontMemberDecides", make := .lifted ["publicsums"], apart := false }
def FnVoterFrontMemberDecidesSaid : Prop := fnVoterFrontMemberDecidesRow.holds Trym.pinned (OpenSpec.ofChange fnVoterFrontMemberDecidesSpec)

/-- ITS FALSE NEIGHBOUR: 'it returns false'. Refute it at one input. -/
def fnVoterFrontMemberDecidesWrong : ChangeSpec := { name := "fnVoterFrontMemberDecides", fn := fun _ => fun
  | [d1, d2, d3, d4, d5] => { results := [.lit (.bool false)], args := [d1, d2, d3, d4, d5] }
  | _ => none }
def FnVoterFrontMemberDecidesWrongFalsely : Prop := fnVoterFrontMemberDecidesRow.holds Trym.pinned (OpenSpec.ofChange fnVoterFrontMemberDecidesWrong)

/-- 'zzlaws_internal_entry_b1.FnRecordsFromMatchesEntryModel': WHATEVER THE INPUT: true; the input reads as it did. -/
def fnRecordsFromMatchesEntryModelSpec : ChangeSpec := { name := "fnRecordsFromMatchesEntryModel", fn := fun _ => fun
  | [d1, d2, d3, d4, d5, d6] => { results := [.lit (.bool true)], args := [d1, d2, d3, d4, d5, d6] }
  | _ => none }
def fnRecordsFromMatchesEntryModelRow : OpenClaim := { program := "qxb6603617amods", sum := "06ca66d7187b807f87906df903f4211bef4db77a3ce1d81ca1739819a97e0511", func := "example.com/ledgerline/ledgerline/zzlaws_internal_entry_b1.FnRecordsFromMatchesEntryModel", spec := "fnRecordsFromMatchesEntryModel", make := .lifted ["publicsums"], apart := false }
def FnRecordsFromMatchesEntryModelSaid : Prop := fnRecordsFromMatchesEntryModelRow.holds Trym.pinned (OpenSpec.ofChange fnRecordsFromMatchesEntryModelSpec)

/-- ITS FALSE NEIGHBOUR: 'it returns false'. Refute it at one input. -/
def fnRecordsFromMatchesEntryModelWrong : ChangeSpec := { name := "fnRecordsFromMatchesEntryModel", fn := fun _ => fun
  | [d1, d2, d3, d4, d5, d6] => { results := [.lit (.bool false)], args := [d1, d2, d3, d4, d5, d6] }
  | _ => none }
def FnRecordsFromMatchesEntryModelWrongFalsely : Prop := fnRecordsFromMatchesEntryModelRow.holds Trym.pinned (OpenSpec.ofChange fnRecordsFromMatchesEntryModelWrong)

/-- 'zzlaws_internal_entry_b1.FnRecordsFromComposesAndStartsAtIndex': WHATEVER THE INPUT: true; the input reads as it did. -/
def fnRecordsFromComposesAndStartsAtIndexSpec : ChangeSpec := { name := "fnRecordsFromComposesAndStartsAtIndex", fn := fun _ => fun
  | [d1, d2, d3, d4, d5, d6, d7] => { results := [.lit (.bool true)], args := [d1, d2, d3, d4, d5, d6, d7] }
  | _ => none }
def fnRecordsFromComposesAndStartsAtIndexRow : OpenClaim := { program := "qxb6603617amods", sum := "06ca66d7187b807f87906df903f4211bef4db77a3ce1d81ca1739819a97e0511", func := "example.com/ledgerline/ledgerline/zzlaws_internal_entry_b1.FnRecordsFromComposesAndStartsAtIndex", spec := "fnRecordsFromComposesAndStartsAtIndex", make := .lifted ["publicsums"], apart := false }
def FnRecordsFromComposesAndStartsAtIndexSaid : Prop := fnRecordsFromComposesAndStartsAtIndexRow.holds Trym.pinned (OpenSpec.ofChange fnRecordsFromComposesAndStartsAtIndexSpec)

/-- ITS FALSE NEIGHBOUR: 'it returns false'. Refute it at one input. -/
def fnRecordsFromComposesAndStartsAtIndexWrong : ChangeSpec := { name := "fnRecordsFromComposesAndStartsAtIndex", fn := fun _ => fun
  | [d1, d2, d3, d4, d5, d6, d7] => { results := [.lit (.bool false)], args := [d1, d2, d3, d4, d5, d6, d7] }
  | _ => none }
def FnRecordsFromComposesAndStartsAtIndexWrongFalsely : Prop := fnRecordsFromComposesAndStartsAtIndexRow.holds Trym.pinned (OpenSpec.ofChange fnRecordsFromComposesAndStartsAtIndexWrong)

end Rows
end Go.Proofs.Qxb6603617aMods
