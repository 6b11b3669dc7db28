/-
  No cell of these rows narrows 'for every input' (looked for: loops, veiled, ifaces, maps, wideKeys, modest, calm, conditions, laid).
  DERIVED. THE GIVEN ROWS OF THIS SEAT. 6 by the template 'for every input the law returns true; each argument reads behind the call as it read before'; 0 by the template 'total and deterministic' (their statements: Qxb6600425aModsTotals.lean).
  GIVEN WITH THE SEED: the statements are not yours to turn. If you find one false, say at which input.
  Laid BY PROGRAM, IN A SANDBOX (cutbox-rows.mjs): the forced cells as the released guide's own fill.sh prints them over the translation b703780db08fa089… (all of the seat's roots in one cut). By AI agents, Wed Nov 11 2026. No macro, syntax, notation, axiom, sorry.
-/
import Derived.Test.Qxb6600425aModsChecked
import GoSem.Claim
import GoSem.ClaimJoined
import GoSem.ClaimMapViews
import Derived.JoinedTies
import Derived.KernelRfl
namespace Go.Proofs.Qxb6600425aMods
/- THE CELL 'sum', in the pinned program and in every row, IS THE sha256 OF THE DUMP (.gsa) THAT Qxb6600425aModsProg.lean LOADS. Nothing in Lean hashes anything: it is a label: what it is worth is what the hold of that sum in a sandbox is worth. -/
noncomputable def Trym.pinned : Pinned := { name := "qxb6600425amods", sum := "b703780db08fa08980d5e6a2c394b830674141ce2bb242643bc643a63dcbd384", checked := Trym.checked }
namespace Rows
def none {H : Type} : Left H := { results := [], args := [] }

/-- 'zzlaws_pkg_labelsource_b1.FnCpuidLabelsExact': WHATEVER THE INPUT: true; the input reads as it did. -/
def fnCpuidLabelsExactSpec : ChangeSpec := { name := "fnCpuidLabelsExact", fn := fun _ => fun
  | [d1, d2, d3, d4, d5, d6] => { results := [.lit (.bool true)], args := [d1, d2, d3, d4, d5, d6] }
  | _ => none }
def fnCpuidLabelsExactRow : OpenClaim := { program := "qxb6600425amods", sum := "b703780db08fa08980d5e6a2c394b830674141ce2bb242643bc643a63dcbd384", func := "example.com/nodeatlas/nodeatlas/zzlaws_pkg_labelsource_b1.FnCpuidLabelsExact", spec := "fnCpuidLabelsExact", make := .lifted ["publicsums"], apart := false }
def FnCpuidLabelsExactSaid : Prop := fnCpuidLabelsExactRow.holds Trym.pinned (OpenSpec.ofChange fnCpuidLabelsExactSpec)

/-- ITS FALSE NEIGHBOUR: 'it returns false'. Refute it at one input. -/
def fnCpuidLabelsExactWrong : ChangeSpec := { name := "fnCpuidLabelsExact", fn := fun _ => fun
  | [d1, d2, d3, d4, d5, d6] => { results := [.lit (.bool false)], args := [d1, d2, d3, d4, d5, d6] }
  | _ => none }
def FnCpuidLabelsExactWrongFalsely : Prop := fnCpuidLabelsExactRow.holds Trym.pinned (OpenSpec.ofChange fnCpuidLabelsExactWrong)

/-- 'zzlaws_pkg_labelsource_b1.FnCpuidLabelsLabelledOverridesUnlabelled': WHATEVER THE INPUT: true; the input reads as it did. -/
def fnCpuidLabelsLabelledOverridesUnlabelledSpec : ChangeSpec := { name := "fnCpuidLabelsLabelledOverridesUnlabelled", fn := fun _ => fun
  | [d1, d2, d3, d4] => { results := [.lit (.bool true)], args := [d1, d2, d3, d4] }
  | _ => none }
def fnCpuidLabelsLabelledOverridesUnlabelledRow : OpenClaim := { program := "qxb6600425amods", sum := "b703780db08fa08980d5e6a2c394b830674141ce2bb242643bc643a63dcbd384", func := "example.com/nodeatlas/nodeatlas/zzlaws_pkg_labelsource_b1.FnCpuidLabelsLabelledOverridesUnlabelled", spec := "fnCpuidLabelsLabelledOverridesUnlabelled", make := .lifted ["publicsums"], apart := false }
def FnCpuidLabelsLabelledOverridesUnlabelledSaid : Prop := fnCpuidLabelsLabelledOverridesUnlabelledRow.holds Trym.pinned (OpenSpec.ofChange fnCpuidLabelsLabelledOverridesUnlabelledSpec)

/-- ITS FALSE NEIGHBOUR: 'it returns false'. Refute it at one input. -/
def fnCpuidLabelsLabelledOverridesUnlabelledWrong : ChangeSpec := { name := "fnCpuidLabelsLabelledOverridesUnlabelled", fn := fun _ => fun
  | [d1, d2, d3, d4] => { results := [.lit (.bool false)], args := [d1, d2, d3, d4] }
  | _ => none }
def FnCpuidLabelsLabelledOverridesUnlabelledWrongFalsely : Prop := fnCpuidLabelsLabelledOverridesUnlabelledRow.holds Trym.pinned (OpenSpec.ofChange fnCpuidLabelsLabelledOverridesUnlabelledWrong)

/-- 'zzlaws_pkg_labelsource_b1.FnCpuidLabelsMoreUnlabelledFewerLabels': WHATEVER THE INPUT: true; the input reads as it did. -/
def fnCpuidLabelsMoreUnlabelledFewerLabelsSpec : ChangeSpec := { name := "fnCpuidLabelsMoreUnlabelledFewerLabels", fn := fun _ => fun
  | [d1, d2, d3, d4] => { results := [.lit (.bool true)], args := [d1, d2, d3, d4] }
  | _ => none }
def fnCpuidLabelsMoreUnlabelledFewerLabelsRow : OpenClaim := { program := "qxb6600425amods", sum := "b703780db08fa08980d5e6a2c394b830674141ce2bb242643bc643a63dcbd384", func := "example.com/nodeatlas/nodeatlas/zzlaws_pkg_labelsource_b1.FnCpuidLabelsMoreUnlabelledFewerLabels", spec := "fnCpuidLabelsMoreUnlabelledFewerLabels", make := .lifted ["publicsums"], apart := false }
def FnCpuidLabelsMoreUnlabelledFewerLabelsSaid : Prop := fnCpuidLabelsMoreUnlabelledFewerLabelsRow.holds Trym.pinned (OpenSpec.ofChange fnCpuidLabelsMoreUnlabelledFewerLabelsSpec)

/-- ITS FALSE NEIGHBOUR: 'it returns false'. Refute it at one input. -/
def fnCpuidLabelsMoreUnlabelledFewerLabelsWrong : ChangeSpec := { name := "fnCpuidLabelsMoreUnlabelledFewerLabels", fn := fun _ => fun
  | [d1, d2, d3, d4] => { results := [.lit (.bool false)], args := [d1, d2, d3, d4] }
  | _ => none }
def FnCpuidLabelsMoreUnlabelledFewerLabelsWrongFalsely : Prop := fnCpuidLabelsMoreUnlabelledFewerLabelsRow.holds Trym.pinned (OpenSpec.ofChange fnCpuidLabelsMoreUnlabelledFewerLabelsWrong)

/-- 'zzlaws_pkg_labelsource_b1.FnDefaultsWellFormed': WHATEVER THE INPUT: true; the input reads as it did. -/
def fnDefaultsWellFormedSpec : ChangeSpec := { name := "fnDefaultsWellFormed", fn := fun _ => fun
  | [] => { results := [.lit (.bool true)], args := [] }
  | _ => none }
def fnDefaultsWellFormedRow : OpenClaim := { program := "qxb6600425amods", sum := "b703780db08fa08980d5e6a2c394b830674141ce2bb242643bc643a63dcbd384", func := "example.com/nodeatlas/nodeatlas/zzlaws_pkg_labelsource_b1.FnDefaultsWellFormed", spec := "fnDefaultsWellFormed", make := .lifted ["publicsums"], apart := false }
def FnDefaultsWellFormedSaid : Prop := fnDefaultsWellFormedRow.holds Trym.pinned (OpenSpec.ofChange fnDefaultsWellFormedSpec)

/-- ITS FALSE NEIGHBOUR: 'it returns false'. Refute it at one input. -/
def fnDefaultsWellFormedWrong : ChangeSpec := { name := "fnDefaultsWellFormed", fn := fun _ => fun
  | [] => { results := [.lit (.bool false)], args := [] }
  | _ => none }
def FnDefaultsWellFormedWrongFalsely : Prop := fnDefaultsWellFormedRow.holds Trym.pinned (OpenSpec.ofChange fnDefaultsWellFormedWrong)

/-- 'zzlaws_pkg_labelsource_b1.FnDefaultsFreshEachCall': WHATEVER THE INPUT: true; the input reads as it did. -/
def fnDefaultsFreshEachCallSpec : ChangeSpec := { name := "fnDefaultsFreshEachCall", fn := fun _ => fun
  | [] => { results := [.lit (.bool true)], args := [] }
  | _ => none }
def fnDefaultsFreshEachCallRow : OpenClaim := { program := "qxb6600425amods", sum := "b703780db08fa08980d5e6a2c394b830674141ce2bb242643bc643a63dcbd384", func := "example.com/nodeatlas/nodeatlas/zzlaws_pkg_labelsource_b1.FnDefaultsFreshEachCall", spec := "fnDefaultsFreshEachCall", make := .lifted ["publicsums"], apart := false }
def FnDefaultsFreshEachCallSaid : Prop := fnDefaultsFreshEachCallRow.holds Trym.pinned (OpenSpec.ofChange fnDefaultsFreshEachCallSpec)

/-- ITS FALSE NEIGHBOUR: 'it returns false'. Refute it at one input. -/
def fnDefaultsFreshEachCallWrong : ChangeSpec := { name := "fnDefaultsFreshEachCall", fn := fun _ => fun
  | [] => { results := [.lit (.bool false)], args := [] }
  | _ => none }
def FnDefaultsFreshEachCallWrongFalsely : Prop := fnDefaultsFreshEachCallRow.holds Trym.pinned (OpenSpec.ofChange fnDefaultsFreshEachCallWrong)

/-- 'zzlaws_pkg_labelsource_b1.FnDefaultsCpuidLabelsExactAndAVX': WHATEVER THE INPUT: true; the input reads as it did. -/
def fnDefaultsCpuidLabelsExactAndAVXSpec : ChangeSpec := { name := "fnDefaultsCpuidLabelsExactAndAVX", fn := fun _ => fun
  | [d1, d2] => { results := [.lit (.bool true)], args := [d1, d2] }
  | _ => none }
def fnDefaultsCpuidLabelsExactAndAVXRow : OpenClaim := { program := "qxb6600425amods", sum := "b703780db08fa08980d5e6a2c394b830674141ce2bb242643bc643a63dcbd384", func := "example.com/nodeatlas/nodeatlas/zzlaws_pkg_labelsource_b1.FnDefaultsCpuidLabelsExactAndAVX", spec := "fnDefaultsCpuidLabelsExactAndAVX", make := .lifted ["publicsums"], apart := false }
def FnDefaultsCpuidLabelsExactAndAVXSaid : Prop := fnDefaultsCpuidLabelsExactAndAVXRow.holds Trym.pinned (OpenSpec.ofChange fnDefaultsCpuidLabelsExactAndAVXSpec)

/-- ITS FALSE NEIGHBOUR: 'it returns false'. Refute it at one input. -/
def fnDefaultsCpuidLabelsExactAndAVXWrong : ChangeSpec := { name := "fnDefaultsCpuidLabelsExactAndAVX", fn := fun _ => fun
  | [d1, d2] => { results := [.lit (.bool false)], args := [d1, d2] }
  | _ => none }
def FnDefaultsCpuidLabelsExactAndAVXWrongFalsely : Prop := fnDefaultsCpuidLabelsExactAndAVXRow.holds Trym.pinned (OpenSpec.ofChange fnDefaultsCpuidLabelsExactAndAVXWrong)

end Rows
end Go.Proofs.Qxb6600425aMods
