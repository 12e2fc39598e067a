/-
  No cell of these rows narrows 'for every input' (looked for: loops, veiled, ifaces, maps, wideKeys, modest, calm, conditions, laid).
  DERIVED. THE GIVEN ROWS OF THIS SEAT. 3 by the template 'for every input the law returns true; each argument reads behind the call as it read before'; 0 by the template 'total and deterministic' (their statements: Qxb6603594aModsTotals.lean).
  GIVEN WITH THE SEED: the statements are not yours to turn. If you find one false, say at which input.
  Laid BY PROGRAM, IN A SANDBOX (cutbox-rows.mjs): the forced cells as the released guide's own fill.sh prints them over the translation 10f5e5f726da7799… (all of the seat's roots in one cut). By AI agents, Wed Nov 11 2026. No macro, syntax, notation, axiom, sorry.
-/
import Derived.Test.Qxb6603594aModsChecked
import GoSem.Claim
import GoSem.ClaimJoined
import GoSem.ClaimMapViews
import Derived.JoinedTies
import Derived.KernelRfl
namespace Go.Proofs.Qxb6603594aMods
/- THE CELL 'sum', in the pinned program and in every row, IS THE sha256 OF THE DUMP (.gsa) THAT Qxb6603594aModsProg.lean LOADS. Nothing in Lean hashes anything: it is a label: what it is worth is what the hold of that sum in a sandbox is worth. -/
noncomputable def Trym.pinned : Pinned := { name := "qxb6603594amods", sum := "10f5e5f726da7799820a48ea69895d45e3f282ead66c95655f7a7296548d601c", checked := Trym.checked }
namespace Rows
def none {H : Type} : Left H := { results := [], args := [] }

/-- 'zzlaws_internal_daemon_b1.FnPlaceRoundTrip': WHATEVER THE INPUT: true; the input reads as it did. -/
def fnPlaceRoundTripSpec : ChangeSpec := { name := "fnPlaceRoundTrip", fn := fun _ => fun
  | [d] => { results := [.lit (.bool true)], args := [d] }
  | _ => none }
def fnPlaceRoundTripRow : OpenClaim := { program := "qxb6603594amods", sum := "10f5e5f726da7799820a48ea69895d45e3f282ead66c95655f7a7296548d601c", func := "example.com/headroom/headroom/zzlaws_internal_daemon_b1.FnPlaceRoundTrip", spec := "fnPlaceRoundTrip", make := .lifted ["publicsums"], apart := false }
def FnPlaceRoundTripSaid : Prop := fnPlaceRoundTripRow.holds Trym.pinned (OpenSpec.ofChange fnPlaceRoundTripSpec)

/-- ITS FALSE NEIGHBOUR: 'it returns false'. Refute it at one input. -/
def fnPlaceRoundTripWrong : ChangeSpec := { name := "fnPlaceRoundTrip", fn := fun _ => fun
  | [d] => { results := [.lit (.bool false)], args := [d] }
  | _ => none }
def FnPlaceRoundTripWrongFalsely : Prop := fnPlaceRoundTripRow.holds Trym.pinned (OpenSpec.ofChange fnPlaceRoundTripWrong)

/-- 'zzlaws_internal_daemon_b1.FnPlaceFreshPointers': WHATEVER THE INPUT: true; the input reads as it did. -/
def fnPlaceFreshPointersSpec : ChangeSpec := { name := "fnPlaceFreshPointers", fn := fun _ => fun
  | [d1, d2] => { results := [.lit (.bool true)], args := [d1, d2] }
  | _ => none }
def fnPlaceFreshPointersRow : OpenClaim := { program := "qxb6603594amods", sum := "10f5e5f726da7799820a48ea69895d45e3f282ead66c95655f7a7296548d601c", func := "example.com/headroom/headroom/zzlaws_internal_daemon_b1.FnPlaceFreshPointers", spec := "fnPlaceFreshPointers", make := .lifted ["publicsums"], apart := false }
def FnPlaceFreshPointersSaid : Prop := fnPlaceFreshPointersRow.holds Trym.pinned (OpenSpec.ofChange fnPlaceFreshPointersSpec)

/-- ITS FALSE NEIGHBOUR: 'it returns false'. Refute it at one input. -/
def fnPlaceFreshPointersWrong : ChangeSpec := { name := "fnPlaceFreshPointers", fn := fun _ => fun
  | [d1, d2] => { results := [.lit (.bool false)], args := [d1, d2] }
  | _ => none }
def FnPlaceFreshPointersWrongFalsely : Prop := fnPlaceFreshPointersRow.holds Trym.pinned (OpenSpec.ofChange fnPlaceFreshPointersWrong)

/-- 'zzlaws_internal_daemon_b1.FnParseErrorFreshEachCall': WHATEVER THE INPUT: true; the input reads as it did. -/
def fnParseErrorFreshEachCallSpec : ChangeSpec := { name := "fnParseErrorFreshEachCall", fn := fun _ => fun
  | [] => { results := [.lit (.bool true)], args := [] }
  | _ => none }
def fnParseErrorFreshEachCallRow : OpenClaim := { program := "qxb6603594amods", sum := "10f5e5f726da7799820a48ea69895d45e3f282ead66c95655f7a7296548d601c", func := "example.com/headroom/headroom/zzlaws_internal_daemon_b1.FnParseErrorFreshEachCall", spec := "fnParseErrorFreshEachCall", make := .lifted ["publicsums"], apart := false }
def FnParseErrorFreshEachCallSaid : Prop := fnParseErrorFreshEachCallRow.holds Trym.pinned (OpenSpec.ofChange fnParseErrorFreshEachCallSpec)

/-- ITS FALSE NEIGHBOUR: 'it returns false'. Refute it at one input. -/
def fnParseErrorFreshEachCallWrong : ChangeSpec := { name := "fnParseErrorFreshEachCall", fn := fun _ => fun
  | [] => { results := [.lit (.bool false)], args := [] }
  | _ => none }
def FnParseErrorFreshEachCallWrongFalsely : Prop := fnParseErrorFreshEachCallRow.holds Trym.pinned (OpenSpec.ofChange fnParseErrorFreshEachCallWrong)

end Rows
end Go.Proofs.Qxb6603594aMods
