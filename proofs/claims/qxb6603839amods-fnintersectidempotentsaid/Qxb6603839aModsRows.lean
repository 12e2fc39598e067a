/-
  No cell of these rows narrows 'for every input' (looked for: loops, veiled, ifaces, maps, wideKeys, modest, calm, conditions, laid).
  DERIVED. THE GIVEN ROWS OF THIS SEAT. 2 by the template 'for every input the law returns true; each argument reads behind the call as it read before'; 0 by the template 'total and deterministic' (their statements: Qxb6603839aModsTotals.lean).
  GIVEN WITH THE SEED: the statements are not yours to turn. If you find one false, say at which input.
  Laid BY PROGRAM, IN A SANDBOX (cutbox-rows.mjs): the forced cells as the released guide's own fill.sh prints them over the translation 9a79e0d96c2a6335… (all of the seat's roots in one cut). By AI agents, Wed Nov 11 2026. No macro, syntax, notation, axiom, sorry.
-/
import Derived.Test.Qxb6603839aModsChecked
import GoSem.Claim
import GoSem.ClaimJoined
import GoSem.ClaimMapViews
import Derived.JoinedTies
import Derived.KernelRfl
namespace Go.Proofs.Qxb6603839aMods
/- THE CELL 'sum', in the pinned program and in every row, IS THE sha256 OF THE DUMP (.gsa) THAT Qxb6603839aModsProg.lean LOADS. Nothing in Lean hashes anything: it is a label: what it is worth is what the hold of that sum in a sandbox is worth. -/
noncomputable def Trym.pinned : Pinned := { name := "qxb6603839amods", sum := "9a79e0d96c2a6335073c4b5b069a1f3cc6ef8ae6881f97763cecac48011f7ef7", checked := Trym.checked }
namespace Rows
def none {H : Type} : Left H := { results := [], args := [] }

/-- 'zzlaws_routing_b1.FnIntersectIdempotent': WHATEVER THE INPUT: true; the input reads as it did. -/
def fnIntersectIdempotentSpec : ChangeSpec := { name := "fnIntersectIdempotent", fn := fun _ => fun
  | [d1, d2] => { results := [.lit (.bool true)], args := [d1, d2] }
  | _ => none }
def fnIntersectIdempotentRow : OpenClaim := { program := "qxb6603839amods", sum := "9a79e0d96c2a6335073c4b5b069a1f3cc6ef8ae6881f97763cecac48011f7ef7", func := "example.com/portcullis/portcullis/zzlaws_routing_b1.FnIntersectIdempotent", spec := "fnIntersectIdempotent", make := .lifted ["publicsums"], apart := false }
def FnIntersectIdempotentSaid : Prop := fnIntersectIdempotentRow.holds Trym.pinned (OpenSpec.ofChange fnIntersectIdempotentSpec)

/-- ITS FALSE NEIGHBOUR: 'it returns false'. Refute it at one input. -/
def fnIntersectIdempotentWrong : ChangeSpec := { name := "fnIntersectIdempotent", fn := fun _ => fun
  | [d1, d2] => { results := [.lit (.bool false)], args := [d1, d2] }
  | _ => none }
def FnIntersectIdempotentWrongFalsely : Prop := fnIntersectIdempotentRow.holds Trym.pinned (OpenSpec.ofChange fnIntersectIdempotentWrong)

/-- 'zzlaws_routing_b1.FnIsIdentifierMatchesModel': WHATEVER THE INPUT: true; the input reads as it did. -/
def fnIsIdentifierMatchesModelSpec : ChangeSpec := { name := "fnIsIdentifierMatchesModel", fn := fun _ => fun
  | [d] => { results := [.lit (.bool true)], args := [d] }
  | _ => none }
def fnIsIdentifierMatchesModelRow : OpenClaim := { program := "qxb6603839amods", sum := "9a79e0d96c2a6335073c4b5b069a1f3cc6ef8ae6881f97763cecac48011f7ef7", func := "example.com/portcullis/portcullis/zzlaws_routing_b1.FnIsIdentifierMatchesModel", spec := "fnIsIdentifierMatchesModel", make := .lifted ["publicsums"], apart := false }
def FnIsIdentifierMatchesModelSaid : Prop := fnIsIdentifierMatchesModelRow.holds Trym.pinned (OpenSpec.ofChange fnIsIdentifierMatchesModelSpec)

/-- ITS FALSE NEIGHBOUR: 'it returns false'. Refute it at one input. -/
def fnIsIdentifierMatchesModelWrong : ChangeSpec := { name := "fnIsIdentifierMatchesModel", fn := fun _ => fun
  | [d] => { results := [.lit (.bool false)], args := [d] }
  | _ => none }
def FnIsIdentifierMatchesModelWrongFalsely : Prop := fnIsIdentifierMatchesModelRow.holds Trym.pinned (OpenSpec.ofChange fnIsIdentifierMatchesModelWrong)

end Rows
end Go.Proofs.Qxb6603839aMods
