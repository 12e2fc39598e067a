/-
  No cell of these rows narrows 'for every input' (looked for: loops, veiled, ifaces, maps, wideKeys, modest, calm, conditions, laid).
  DERIVED. THE GIVEN ROWS OF THIS SEAT. 2 by the template 'for every input the law returns true; each argument reads behind the call as it read before'; 0 by the template 'total and deterministic' (their statements: Qxb6604012aModsTotals.lean).
  GIVEN WITH THE SEED: the statements are not yours to turn. If you find one false, say at which input.
  Laid BY PROGRAM, IN A SANDBOX (cutbox-rows.mjs): the forced cells as the released guide's own fill.sh prints them over the translation f73da2e181ab58b1… (all of the seat's roots in one cut). By AI agents, Wed Nov 11 2026. No macro, syntax, notation, axiom, sorry.
-/
import Derived.Test.Qxb6604012aModsChecked
import GoSem.Claim
import GoSem.ClaimJoined
import GoSem.ClaimMapViews
import Derived.JoinedTies
import Derived.KernelRfl
namespace Go.Proofs.Qxb6604012aMods
/- THE CELL 'sum', in the pinned program and in every row, IS THE sha256 OF THE DUMP (.gsa) THAT Qxb6604012aModsProg.lean LOADS. Nothing in Lean hashes anything: it is a label: what it is worth is what the hold of that sum in a sandbox is worth. -/
noncomputable def Trym.pinned : Pinned := { name := "qxb6604012amods", sum := "f73da2e181ab58b1308a076ccc7427f89c13c158994daff4a729352f63e81eb7", checked := Trym.checked }
namespace Rows
def none {H : Type} : Left H := { results := [], args := [] }

/-- 'zzlaws_internal_agent_b1.FnCommandOfFresh': WHATEVER THE INPUT: true; the input reads as it did. -/
def fnCommandOfFreshSpec : ChangeSpec := { name := "fnCommandOfFresh", fn := fun _ => fun
  | [d1, d2] => { results := [.lit (.bool true)], args := [d1, d2] }
  | _ => none }
def fnCommandOfFreshRow : OpenClaim := { program := "qxb6604012amods", sum := "f73da2e181ab58b1308a076ccc7427f89c13c158994daff4a729352f63e81eb7", func := "example.com/keelward/keelward/zzlaws_internal_agent_b1.FnCommandOfFresh", spec := "fnCommandOfFresh", make := .lifted ["publicsums"], apart := false }
def FnCommandOfFreshSaid : Prop := fnCommandOfFreshRow.holds Trym.pinned (OpenSpec.ofChange fnCommandOfFreshSpec)

/-- ITS FALSE NEIGHBOUR: 'it returns false'. Refute it at one input. -/
def fnCommandOfFreshWrong : ChangeSpec := { name := "fnCommandOfFresh", fn := fun _ => fun
  | [d1, d2] => { results := [.lit (.bool false)], args := [d1, d2] }
  | _ => none }
def FnCommandOfFreshWrongFalsely : Prop := fnCommandOfFreshRow.holds Trym.pinned (OpenSpec.ofChange fnCommandOfFreshWrong)

/-- 'zzlaws_internal_agent_b1.FnRolledBackOfRoundTrip': WHATEVER THE INPUT: true; the input reads as it did. -/
def fnRolledBackOfRoundTripSpec : ChangeSpec := { name := "fnRolledBackOfRoundTrip", fn := fun _ => fun
  | [d1, d2, d3] => { results := [.lit (.bool true)], args := [d1, d2, d3] }
  | _ => none }
def fnRolledBackOfRoundTripRow : OpenClaim := { program := "qxb6604012amods", sum := "f73da2e181ab58b1308a076ccc7427f89c13c158994daff4a729352f63e81eb7", func := "example.com/keelward/keelward/zzlaws_internal_agent_b1.FnRolledBackOfRoundTrip", spec := "fnRolledBackOfRoundTrip", make := .lifted ["publicsums"], apart := false }
def FnRolledBackOfRoundTripSaid : Prop := fnRolledBackOfRoundTripRow.holds Trym.pinned (OpenSpec.ofChange fnRolledBackOfRoundTripSpec)

/-- ITS FALSE NEIGHBOUR: 'it returns false'. Refute it at one input. -/
def fnRolledBackOfRoundTripWrong : ChangeSpec := { name := "fnRolledBackOfRoundTrip", fn := fun _ => fun
  | [d1, d2, d3] => { results := [.lit (.bool false)], args := [d1, d2, d3] }
  | _ => none }
def FnRolledBackOfRoundTripWrongFalsely : Prop := fnRolledBackOfRoundTripRow.holds Trym.pinned (OpenSpec.ofChange fnRolledBackOfRoundTripWrong)

end Rows
end Go.Proofs.Qxb6604012aMods
