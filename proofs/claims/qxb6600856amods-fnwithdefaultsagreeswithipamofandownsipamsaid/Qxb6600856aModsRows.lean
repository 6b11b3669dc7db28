/-
  No cell of these rows narrows 'for every input' (looked for: loops, veiled, ifaces, maps, wideKeys, modest, calm, conditions, laid).
  DERIVED. THE GIVEN ROWS OF THIS SEAT. 3 by the template 'for every input the law returns true; each argument reads behind the call as it read before'; 0 by the template 'total and deterministic' (their statements: Qxb6600856aModsTotals.lean).
  GIVEN WITH THE SEED: the statements are not yours to turn. If you find one false, say at which input.
  Laid BY PROGRAM, IN A SANDBOX (cutbox-rows.mjs): the forced cells as the released guide's own fill.sh prints them over the translation 4e3fff4a14e3aeef… (all of the seat's roots in one cut). By AI agents, Wed Nov 11 2026. No macro, syntax, notation, axiom, sorry.
-/
import Derived.Test.Qxb6600856aModsChecked
import GoSem.Claim
import GoSem.ClaimJoined
import GoSem.ClaimMapViews
import Derived.JoinedTies
import Derived.KernelRfl
namespace Go.Proofs.Qxb6600856aMods
/- THE CELL 'sum', in the pinned program and in every row, IS THE sha256 OF THE DUMP (.gsa) THAT Qxb6600856aModsProg.lean LOADS. Nothing in Lean hashes anything: it is a label: what it is worth is what the hold of that sum in a sandbox is worth. -/
noncomputable def Trym.pinned : Pinned := { name := "qxb6600856amods", sum := "4e3fff4a14e3aeef2609f76f5611432c5862965d8a539a0d9e36a8faa345a63c", checked := Trym.checked }
namespace Rows
def none {H : Type} : Left H := { results := [], args := [] }

/-- 'zzlaws_internal_network_b1.FnWithDefaultsIdempotent': WHATEVER THE INPUT: true; the input reads as it did. -/
def fnWithDefaultsIdempotentSpec : ChangeSpec := { name := "fnWithDefaultsIdempotent", fn := fun _ => fun
  | [d1, d2, d3, d4, d5, d6, d7, d8, d9] => { results := [.lit (.bool true)], args := [d1, d2, d3, d4, d5, d6, d7, d8, d9] }
  | _ => none }
def fnWithDefaultsIdempotentRow : OpenClaim := { program := "qxb6600856amods", sum := "4e3fff4a14e3aeef2609f76f5611432c5862965d8a539a0d9e36a8faa345a63c", func := "example.com/overlane/overlane/zzlaws_internal_network_b1.FnWithDefaultsIdempotent", spec := "fnWithDefaultsIdempotent", make := .lifted ["publicsums"], apart := false }
def FnWithDefaultsIdempotentSaid : Prop := fnWithDefaultsIdempotentRow.holds Trym.pinned (OpenSpec.ofChange fnWithDefaultsIdempotentSpec)

/-- ITS FALSE NEIGHBOUR: 'it returns false'. Refute it at one input. -/
def fnWithDefaultsIdempotentWrong : ChangeSpec := { name := "fnWithDefaultsIdempotent", fn := fun _ => fun
  | [d1, d2, d3, d4, d5, d6, d7, d8, d9] => { results := [.lit (.bool false)], args := [d1, d2, d3, d4, d5, d6, d7, d8, d9] }
  | _ => none }
def FnWithDefaultsIdempotentWrongFalsely : Prop := fnWithDefaultsIdempotentRow.holds Trym.pinned (OpenSpec.ofChange fnWithDefaultsIdempotentWrong)

/-- 'zzlaws_internal_network_b1.FnWithDefaultsAgreesWithIpamOfAndOwnsIPAM': WHATEVER THE INPUT: true; the input reads as it did. -/
def fnWithDefaultsAgreesWithIpamOfAndOwnsIPAMSpec : ChangeSpec := { name := "fnWithDefaultsAgreesWithIpamOfAndOwnsIPAM", fn := fun _ => fun
  | [d1, d2, d3, d4, d5, d6, d7, d8, d9] => { results := [.lit (.bool true)], args := [d1, d2, d3, d4, d5, d6, d7, d8, d9] }
  | _ => none }
def fnWithDefaultsAgreesWithIpamOfAndOwnsIPAMRow : OpenClaim := { program := "qxb6600856amods", sum := "4e3fff4a14e3aeef2609f76f5611432c5862965d8a539a0d9e36a8faa345a63c", func := "example.com/overlane/overlane/zzlaws_internal_network_b1.FnWithDefaultsAgreesWithIpamOfAndOwnsIPAM", spec := "fnWithDefaultsAgreesWithIpamOfAndOwnsIPAM", make := .lifted ["publicsums"], apart := false }
def FnWithDefaultsAgreesWithIpamOfAndOwnsIPAMSaid : Prop := fnWithDefaultsAgreesWithIpamOfAndOwnsIPAMRow.holds Trym.pinned (OpenSpec.ofChange fnWithDefaultsAgreesWithIpamOfAndOwnsIPAMSpec)

/-- ITS FALSE NEIGHBOUR: 'it returns false'. Refute it at one input. -/
def fnWithDefaultsAgreesWithIpamOfAndOwnsIPAMWrong : ChangeSpec := { name := "fnWithDefaultsAgreesWithIpamOfAndOwnsIPAM", fn := fun _ => fun
  | [d1, d2, d3, d4, d5, d6, d7, d8, d9] => { results := [.lit (.bool false)], args := [d1, d2, d3, d4, d5, d6, d7, d8, d9] }
  | _ => none }
def FnWithDefaultsAgreesWithIpamOfAndOwnsIPAMWrongFalsely : Prop := fnWithDefaultsAgreesWithIpamOfAndOwnsIPAMRow.holds Trym.pinned (OpenSpec.ofChange fnWithDefaultsAgreesWithIpamOfAndOwnsIPAMWrong)

/-- 'zzlaws_internal_network_b1.FnIpamOfFixedPoint': WHATEVER THE INPUT: true; the input reads as it did. -/
def fnIpamOfFixedPointSpec : ChangeSpec := { name := "fnIpamOfFixedPoint", fn := fun _ => fun
  | [d1, d2, d3] => { results := [.lit (.bool true)], args := [d1, d2, d3] }
  | _ => none }
def fnIpamOfFixedPointRow : OpenClaim := { program := "qxb6600856amods", sum := "4e3fff4a14e3aeef2609f76f5611432c5862965d8a539a0d9e36a8faa345a63c", func := "example.com/overlane/overlane/zzlaws_internal_network_b1.FnIpamOfFixedPoint", spec := "fnIpamOfFixedPoint", make := .lifted ["publicsums"], apart := false }
def FnIpamOfFixedPointSaid : Prop := fnIpamOfFixedPointRow.holds Trym.pinned (OpenSpec.ofChange fnIpamOfFixedPointSpec)

/-- ITS FALSE NEIGHBOUR: 'it returns false'. Refute it at one input. -/
def fnIpamOfFixedPointWrong : ChangeSpec := { name := "fnIpamOfFixedPoint", fn := fun _ => fun
  | [d1, d2, d3] => { results := [.lit (.bool false)], args := [d1, d2, d3] }
  | _ => none }
def FnIpamOfFixedPointWrongFalsely : Prop := fnIpamOfFixedPointRow.holds Trym.pinned (OpenSpec.ofChange fnIpamOfFixedPointWrong)

end Rows
end Go.Proofs.Qxb6600856aMods
