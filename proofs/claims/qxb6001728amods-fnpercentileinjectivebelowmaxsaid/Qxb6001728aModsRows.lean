/-
  No cell of these rows narrows 'for every input' (looked for: loops, veiled, ifaces, maps, wideKeys, modest, calm, conditions, laid).
  DERIVED. THE GIVEN ROWS OF THIS SEAT. 5 by the template 'for every input the law returns true; each argument reads behind the call as it read before'; 0 by the template 'total and deterministic' (their statements: Qxb6001728aModsTotals.lean).
  GIVEN WITH THE SEED: the statements are not yours to turn. If you find one false, say at which input.
  Laid BY PROGRAM, IN A SANDBOX (cutbox-rows.mjs): the forced cells as the released guide's own fill.sh prints them over the translation 7cd2e990d68ac685… (all of the seat's roots in one cut). By AI agents, Wed Nov 11 2026. No macro, syntax, notation, axiom, sorry.
-/
import Derived.Test.Qxb6001728aModsChecked
import GoSem.Claim
import GoSem.ClaimJoined
import GoSem.ClaimMapViews
import Derived.JoinedTies
import Derived.KernelRfl
namespace Go.Proofs.Qxb6001728aMods
/- THE CELL 'sum', in the pinned program and in every row, IS THE sha256 OF THE DUMP (.gsa) THAT Qxb6001728aModsProg.lean LOADS. Nothing in Lean hashes anything: it is a label: what it is worth is what the hold of that sum in a sandbox is worth. -/
noncomputable def Trym.pinned : Pinned := { name := "qxb6001728amods", sum := "7cd2e990d68ac685c477b2bda8680e6a47b3733dde038b72c23018666bc7acf4", checked := Trym.checked }
namespace Rows
def none {H : Type} : Left H := { results := [], args := [] }

/-- 'zzlaws_pkg_api_v1alpha1_b1.FnPercentileInjectiveBelowMax': WHATEVER THE INPUT: true; the input reads as it did. -/
def fnPercentileInjectiveBelowMaxSpec : ChangeSpec := { name := "fnPercentileInjectiveBelowMax", fn := fun _ => fun
  | [d1, d2] => { results := [.lit (.bool true)], args := [d1, d2] }
  | _ => none }
def fnPercentileInjectiveBelowMaxRow : OpenClaim := { program := "qxb6001728amods", sum := "7cd2e990d68ac685c477b2bda8680e6a47b3733dde038b72c23018666bc7acf4", func := "example.com/loadwarden/loadwarden/zzlaws_pkg_api_v1alpha1_b1.FnPercentileInjectiveBelowMax", spec := "fnPercentileInjectiveBelowMax", make := .lifted ["publicsums"], apart := false }
def FnPercentileInjectiveBelowMaxSaid : Prop := fnPercentileInjectiveBelowMaxRow.holds Trym.pinned (OpenSpec.ofChange fnPercentileInjectiveBelowMaxSpec)

/-- ITS FALSE NEIGHBOUR: 'it returns false'. Refute it at one input. -/
def fnPercentileInjectiveBelowMaxWrong : ChangeSpec := { name := "fnPercentileInjectiveBelowMax", fn := fun _ => fun
  | [d1, d2] => { results := [.lit (.bool false)], args := [d1, d2] }
  | _ => none }
def FnPercentileInjectiveBelowMaxWrongFalsely : Prop := fnPercentileInjectiveBelowMaxRow.holds Trym.pinned (OpenSpec.ofChange fnPercentileInjectiveBelowMaxWrong)

/-- 'zzlaws_pkg_api_v1alpha1_b1.FnLoadTestResultsDeepCopyEqualNilForNil': WHATEVER THE INPUT: true; the input reads as it did. -/
def fnLoadTestResultsDeepCopyEqualNilForNilSpec : ChangeSpec := { name := "fnLoadTestResultsDeepCopyEqualNilForNil", fn := fun _ => fun
  | [d1, d2, d3, d4, d5, d6, d7, d8, d9] => { results := [.lit (.bool true)], args := [d1, d2, d3, d4, d5, d6, d7, d8, d9] }
  | _ => none }
def fnLoadTestResultsDeepCopyEqualNilForNilRow : OpenClaim := { program := "qxb6001728amods", sum := "7cd2e990d68ac685c477b2bda8680e6a47b3733dde038b72c23018666bc7acf4", func := "example.com/loadwarden/loadwarden/zzlaws_pkg_api_v1alpha1_b1.FnLoadTestResultsDeepCopyEqualNilForNil", spec := "fnLoadTestResultsDeepCopyEqualNilForNil", make := .lifted ["publicsums"], apart := false }
def FnLoadTestResultsDeepCopyEqualNilForNilSaid : Prop := fnLoadTestResultsDeepCopyEqualNilForNilRow.holds Trym.pinned (OpenSpec.ofChange fnLoadTestResultsDeepCopyEqualNilForNilSpec)

/-- ITS FALSE NEIGHBOUR: 'it returns false'. Refute it at one input. -/
def fnLoadTestResultsDeepCopyEqualNilForNilWrong : ChangeSpec := { name := "fnLoadTestResultsDeepCopyEqualNilForNil", fn := fun _ => fun
  | [d1, d2, d3, d4, d5, d6, d7, d8, d9] => { results := [.lit (.bool false)], args := [d1, d2, d3, d4, d5, d6, d7, d8, d9] }
  | _ => none }
def FnLoadTestResultsDeepCopyEqualNilForNilWrongFalsely : Prop := fnLoadTestResultsDeepCopyEqualNilForNilRow.holds Trym.pinned (OpenSpec.ofChange fnLoadTestResultsDeepCopyEqualNilForNilWrong)

/-- 'zzlaws_pkg_api_v1alpha1_b1.FnLoadTestResultsDeepCopySharesNothing': WHATEVER THE INPUT: true; the input reads as it did. -/
def fnLoadTestResultsDeepCopySharesNothingSpec : ChangeSpec := { name := "fnLoadTestResultsDeepCopySharesNothing", fn := fun _ => fun
  | [d1, d2, d3, d4, d5, d6, d7, d8] => { results := [.lit (.bool true)], args := [d1, d2, d3, d4, d5, d6, d7, d8] }
  | _ => none }
def fnLoadTestResultsDeepCopySharesNothingRow : OpenClaim := { program := "qxb6001728amods", sum := "7cd2e990d68ac685c477b2bda8680e6a47b3733dde038b72c23018666bc7acf4", func := "example.com/loadwarden/loadwarden/zzlaws_pkg_api_v1alpha1_b1.FnLoadTestResultsDeepCopySharesNothing", spec := "fnLoadTestResultsDeepCopySharesNothing", make := .lifted ["publicsums"], apart := false }
def FnLoadTestResultsDeepCopySharesNothingSaid : Prop := fnLoadTestResultsDeepCopySharesNothingRow.holds Trym.pinned (OpenSpec.ofChange fnLoadTestResultsDeepCopySharesNothingSpec)

/-- ITS FALSE NEIGHBOUR: 'it returns false'. Refute it at one input. -/
def fnLoadTestResultsDeepCopySharesNothingWrong : ChangeSpec := { name := "fnLoadTestResultsDeepCopySharesNothing", fn := fun _ => fun
  | [d1, d2, d3, d4, d5, d6, d7, d8] => { results := [.lit (.bool false)], args := [d1, d2, d3, d4, d5, d6, d7, d8] }
  | _ => none }
def FnLoadTestResultsDeepCopySharesNothingWrongFalsely : Prop := fnLoadTestResultsDeepCopySharesNothingRow.holds Trym.pinned (OpenSpec.ofChange fnLoadTestResultsDeepCopySharesNothingWrong)

/-- 'zzlaws_pkg_api_v1alpha1_b1.FnTuningSetDeepCopyIntoReproducesIn': WHATEVER THE INPUT: true; the input reads as it did. -/
def fnTuningSetDeepCopyIntoReproducesInSpec : ChangeSpec := { name := "fnTuningSetDeepCopyIntoReproducesIn", fn := fun _ => fun
  | [d1, d2, d3, d4, d5, d6, d7, d8, d9, d10] => { results := [.lit (.bool true)], args := [d1, d2, d3, d4, d5, d6, d7, d8, d9, d10] }
  | _ => none }
def fnTuningSetDeepCopyIntoReproducesInRow : OpenClaim := { program := "qxb6001728amods", sum := "7cd2e990d68ac685c477b2bda8680e6a47b3733dde038b72c23018666bc7acf4", func := "example.com/loadwarden/loadwarden/zzlaws_pkg_api_v1alpha1_b1.FnTuningSetDeepCopyIntoReproducesIn", spec := "fnTuningSetDeepCopyIntoReproducesIn", make := .lifted ["publicsums"], apart := false }
def FnTuningSetDeepCopyIntoReproducesInSaid : Prop := fnTuningSetDeepCopyIntoReproducesInRow.holds Trym.pinned (OpenSpec.ofChange fnTuningSetDeepCopyIntoReproducesInSpec)

/-- ITS FALSE NEIGHBOUR: 'it returns false'. Refute it at one input. -/
def fnTuningSetDeepCopyIntoReproducesInWrong : ChangeSpec := { name := "fnTuningSetDeepCopyIntoReproducesIn", fn := fun _ => fun
  | [d1, d2, d3, d4, d5, d6, d7, d8, d9, d10] => { results := [.lit (.bool false)], args := [d1, d2, d3, d4, d5, d6, d7, d8, d9, d10] }
  | _ => none }
def FnTuningSetDeepCopyIntoReproducesInWrongFalsely : Prop := fnTuningSetDeepCopyIntoReproducesInRow.holds Trym.pinned (OpenSpec.ofChange fnTuningSetDeepCopyIntoReproducesInWrong)

/-- 'zzlaws_pkg_api_v1alpha1_b1.FnTuningSetDeepCopyIntoSharesNothing': WHATEVER THE INPUT: true; the input reads as it did. -/
def fnTuningSetDeepCopyIntoSharesNothingSpec : ChangeSpec := { name := "fnTuningSetDeepCopyIntoSharesNothing", fn := fun _ => fun
  | [d1, d2, d3, d4, d5, d6, d7, d8, d9, d10] => { results := [.lit (.bool true)], args := [d1, d2, d3, d4, d5, d6, d7, d8, d9, d10] }
  | _ => none }
def fnTuningSetDeepCopyIntoSharesNothingRow : OpenClaim := { program := "qxb6001728amods", sum := "7cd2e990d68ac685c477b2bda8680e6a47b3733dde038b72c23018666bc7acf4", func := "example.com/loadwarden/loadwarden/zzlaws_pkg_api_v1alpha1_b1.FnTuningSetDeepCopyIntoSharesNothing", spec := "fnTuningSetDeepCopyIntoSharesNothing", make := .lifted ["publicsums"], apart := false }
def FnTuningSetDeepCopyIntoSharesNothingSaid : Prop := fnTuningSetDeepCopyIntoSharesNothingRow.holds Trym.pinned (OpenSpec.ofChange fnTuningSetDeepCopyIntoSharesNothingSpec)

/-- ITS FALSE NEIGHBOUR: 'it returns false'. Refute it at one input. -/
def fnTuningSetDeepCopyIntoSharesNothingWrong : ChangeSpec := { name := "fnTuningSetDeepCopyIntoSharesNothing", fn := fun _ => fun
  | [d1, d2, d3, d4, d5, d6, d7, d8, d9, d10] => { results := [.lit (.bool false)], args := [d1, d2, d3, d4, d5, d6, d7, d8, d9, d10] }
  | _ => none }
def FnTuningSetDeepCopyIntoSharesNothingWrongFalsely : Prop := fnTuningSetDeepCopyIntoSharesNothingRow.holds Trym.pinned (OpenSpec.ofChange fnTuningSetDeepCopyIntoSharesNothingWrong)

end Rows
end Go.Proofs.Qxb6001728aMods
