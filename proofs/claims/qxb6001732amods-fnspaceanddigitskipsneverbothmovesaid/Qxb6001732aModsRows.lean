/-
  No cell of these rows narrows 'for every input' (looked for: loops, veiled, ifaces, maps, wideKeys, modest, calm, conditions, laid).
  DERIVED. THE GIVEN ROWS OF THIS SEAT. 5 by the template 'for every input the law returns true; each argument reads behind the call as it read before'; 0 by the template 'total and deterministic' (their statements: Qxb6001732aModsTotals.lean).
  GIVEN WITH THE SEED: the statements are not yours to turn. If you find one false, say at which input.
  Laid BY PROGRAM, IN A SANDBOX (cutbox-rows.mjs): the forced cells as the released guide's own fill.sh prints them over the translation a3d19fff7905d267… (all of the seat's roots in one cut). By AI agents, Wed Nov 11 2026. No macro, syntax, notation, axiom, sorry.
-/
import Derived.Test.Qxb6001732aModsChecked
import GoSem.Claim
import GoSem.ClaimJoined
import GoSem.ClaimMapViews
import Derived.JoinedTies
import Derived.KernelRfl
namespace Go.Proofs.Qxb6001732aMods
/- THE CELL 'sum', in the pinned program and in every row, IS THE sha256 OF THE DUMP (.gsa) THAT Qxb6001732aModsProg.lean LOADS. Nothing in Lean hashes anything: it is a label: what it is worth is what the hold of that sum in a sandbox is worth. -/
noncomputable def Trym.pinned : Pinned := { name := "qxb6001732amods", sum := "a3d19fff7905d2673bfb0a9aa84803c47d914c186d1e3ba11f87c60418cef7c3", checked := Trym.checked }
namespace Rows
def none {H : Type} : Left H := { results := [], args := [] }

/-- 'zzlaws_pkg_manifest_b1.FnSkipSpaceStopsAtFirstNonSpace': WHATEVER THE INPUT: true; the input reads as it did. -/
def fnSkipSpaceStopsAtFirstNonSpaceSpec : ChangeSpec := { name := "fnSkipSpaceStopsAtFirstNonSpace", fn := fun _ => fun
  | [d1, d2] => { results := [.lit (.bool true)], args := [d1, d2] }
  | _ => none }
def fnSkipSpaceStopsAtFirstNonSpaceRow : OpenClaim := { program := "qxb6001732amods", sum := "a3d19fff7905d2673bfb0a9aa84803c47d914c186d1e3ba11f87c60418cef7c3", func := "example.com/loadwarden/loadwarden/zzlaws_pkg_manifest_b1.FnSkipSpaceStopsAtFirstNonSpace", spec := "fnSkipSpaceStopsAtFirstNonSpace", make := .lifted ["publicsums"], apart := false }
def FnSkipSpaceStopsAtFirstNonSpaceSaid : Prop := fnSkipSpaceStopsAtFirstNonSpaceRow.holds Trym.pinned (OpenSpec.ofChange fnSkipSpaceStopsAtFirstNonSpaceSpec)

/-- ITS FALSE NEIGHBOUR: 'it returns false'. Refute it at one input. -/
def fnSkipSpaceStopsAtFirstNonSpaceWrong : ChangeSpec := { name := "fnSkipSpaceStopsAtFirstNonSpace", fn := fun _ => fun
  | [d1, d2] => { results := [.lit (.bool false)], args := [d1, d2] }
  | _ => none }
def FnSkipSpaceStopsAtFirstNonSpaceWrongFalsely : Prop := fnSkipSpaceStopsAtFirstNonSpaceRow.holds Trym.pinned (OpenSpec.ofChange fnSkipSpaceStopsAtFirstNonSpaceWrong)

/-- 'zzlaws_pkg_manifest_b1.FnSkipSpaceRunCollapses': WHATEVER THE INPUT: true; the input reads as it did. -/
def fnSkipSpaceRunCollapsesSpec : ChangeSpec := { name := "fnSkipSpaceRunCollapses", fn := fun _ => fun
  | [d1, d2, d3] => { results := [.lit (.bool true)], args := [d1, d2, d3] }
  | _ => none }
def fnSkipSpaceRunCollapsesRow : OpenClaim := { program := "qxb6001732amods", sum := "a3d19fff7905d2673bfb0a9aa84803c47d914c186d1e3ba11f87c60418cef7c3", func := "example.com/loadwarden/loadwarden/zzlaws_pkg_manifest_b1.FnSkipSpaceRunCollapses", spec := "fnSkipSpaceRunCollapses", make := .lifted ["publicsums"], apart := false }
def FnSkipSpaceRunCollapsesSaid : Prop := fnSkipSpaceRunCollapsesRow.holds Trym.pinned (OpenSpec.ofChange fnSkipSpaceRunCollapsesSpec)

/-- ITS FALSE NEIGHBOUR: 'it returns false'. Refute it at one input. -/
def fnSkipSpaceRunCollapsesWrong : ChangeSpec := { name := "fnSkipSpaceRunCollapses", fn := fun _ => fun
  | [d1, d2, d3] => { results := [.lit (.bool false)], args := [d1, d2, d3] }
  | _ => none }
def FnSkipSpaceRunCollapsesWrongFalsely : Prop := fnSkipSpaceRunCollapsesRow.holds Trym.pinned (OpenSpec.ofChange fnSkipSpaceRunCollapsesWrong)

/-- 'zzlaws_pkg_manifest_b1.FnSkipDigitsStopsAtFirstNonDigit': WHATEVER THE INPUT: true; the input reads as it did. -/
def fnSkipDigitsStopsAtFirstNonDigitSpec : ChangeSpec := { name := "fnSkipDigitsStopsAtFirstNonDigit", fn := fun _ => fun
  | [d1, d2] => { results := [.lit (.bool true)], args := [d1, d2] }
  | _ => none }
def fnSkipDigitsStopsAtFirstNonDigitRow : OpenClaim := { program := "qxb6001732amods", sum := "a3d19fff7905d2673bfb0a9aa84803c47d914c186d1e3ba11f87c60418cef7c3", func := "example.com/loadwarden/loadwarden/zzlaws_pkg_manifest_b1.FnSkipDigitsStopsAtFirstNonDigit", spec := "fnSkipDigitsStopsAtFirstNonDigit", make := .lifted ["publicsums"], apart := false }
def FnSkipDigitsStopsAtFirstNonDigitSaid : Prop := fnSkipDigitsStopsAtFirstNonDigitRow.holds Trym.pinned (OpenSpec.ofChange fnSkipDigitsStopsAtFirstNonDigitSpec)

/-- ITS FALSE NEIGHBOUR: 'it returns false'. Refute it at one input. -/
def fnSkipDigitsStopsAtFirstNonDigitWrong : ChangeSpec := { name := "fnSkipDigitsStopsAtFirstNonDigit", fn := fun _ => fun
  | [d1, d2] => { results := [.lit (.bool false)], args := [d1, d2] }
  | _ => none }
def FnSkipDigitsStopsAtFirstNonDigitWrongFalsely : Prop := fnSkipDigitsStopsAtFirstNonDigitRow.holds Trym.pinned (OpenSpec.ofChange fnSkipDigitsStopsAtFirstNonDigitWrong)

/-- 'zzlaws_pkg_manifest_b1.FnSkipDigitsRunCollapses': WHATEVER THE INPUT: true; the input reads as it did. -/
def fnSkipDigitsRunCollapsesSpec : ChangeSpec := { name := "fnSkipDigitsRunCollapses", fn := fun _ => fun
  | [d1, d2, d3] => { results := [.lit (.bool true)], args := [d1, d2, d3] }
  | _ => none }
def fnSkipDigitsRunCollapsesRow : OpenClaim := { program := "qxb6001732amods", sum := "a3d19fff7905d2673bfb0a9aa84803c47d914c186d1e3ba11f87c60418cef7c3", func := "example.com/loadwarden/loadwarden/zzlaws_pkg_manifest_b1.FnSkipDigitsRunCollapses", spec := "fnSkipDigitsRunCollapses", make := .lifted ["publicsums"], apart := false }
def FnSkipDigitsRunCollapsesSaid : Prop := fnSkipDigitsRunCollapsesRow.holds Trym.pinned (OpenSpec.ofChange fnSkipDigitsRunCollapsesSpec)

/-- ITS FALSE NEIGHBOUR: 'it returns false'. Refute it at one input. -/
def fnSkipDigitsRunCollapsesWrong : ChangeSpec := { name := "fnSkipDigitsRunCollapses", fn := fun _ => fun
  | [d1, d2, d3] => { results := [.lit (.bool false)], args := [d1, d2, d3] }
  | _ => none }
def FnSkipDigitsRunCollapsesWrongFalsely : Prop := fnSkipDigitsRunCollapsesRow.holds Trym.pinned (OpenSpec.ofChange fnSkipDigitsRunCollapsesWrong)

/-- 'zzlaws_pkg_manifest_b1.FnSpaceAndDigitSkipsNeverBothMove': WHATEVER THE INPUT: true; the input reads as it did. -/
def fnSpaceAndDigitSkipsNeverBothMoveSpec : ChangeSpec := { name := "fnSpaceAndDigitSkipsNeverBothMove", fn := fun _ => fun
  | [d1, d2] => { results := [.lit (.bool true)], args := [d1, d2] }
  | _ => none }
def fnSpaceAndDigitSkipsNeverBothMoveRow : OpenClaim := { program := "qxb6001732amods", sum := "a3d19fff7905d2673bfb0a9aa84803c47d914c186d1e3ba11f87c60418cef7c3", func := "example.com/loadwarden/loadwarden/zzlaws_pkg_manifest_b1.FnSpaceAndDigitSkipsNeverBothMove", spec := "fnSpaceAndDigitSkipsNeverBothMove", make := .lifted ["publicsums"], apart := false }
def FnSpaceAndDigitSkipsNeverBothMoveSaid : Prop := fnSpaceAndDigitSkipsNeverBothMoveRow.holds Trym.pinned (OpenSpec.ofChange fnSpaceAndDigitSkipsNeverBothMoveSpec)

/-- ITS FALSE NEIGHBOUR: 'it returns false'. Refute it at one input. -/
def fnSpaceAndDigitSkipsNeverBothMoveWrong : ChangeSpec := { name := "fnSpaceAndDigitSkipsNeverBothMove", fn := fun _ => fun
  | [d1, d2] => { results := [.lit (.bool false)], args := [d1, d2] }
  | _ => none }
def FnSpaceAndDigitSkipsNeverBothMoveWrongFalsely : Prop := fnSpaceAndDigitSkipsNeverBothMoveRow.holds Trym.pinned (OpenSpec.ofChange fnSpaceAndDigitSkipsNeverBothMoveWrong)

end Rows
end Go.Proofs.Qxb6001732aMods
