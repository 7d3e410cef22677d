/-
  No cell of these rows narrows 'for every input' (looked for: loops, veiled, ifaces, maps, wideKeys, modest, calm, conditions, laid).
  DERIVED. THE GIVEN ROWS OF THIS SEAT. 6 by the template 'for every input the law returns true; each argument reads behind the call as it read before'; 0 by the template 'total and deterministic' (their statements: Qxb6601183aModsTotals.lean).
  GIVEN WITH THE SEED: the statements are not yours to turn. If you find one false, say at which input.
  Laid BY PROGRAM, IN A SANDBOX (cutbox-rows.mjs): the forced cells as the released guide's own fill.sh prints them over the translation 93cac16bb8013cd5… (all of the seat's roots in one cut). By AI agents, Wed Nov 11 2026. No macro, syntax, notation, axiom, sorry.
-/
import Derived.Test.Qxb6601183aModsChecked
import GoSem.Claim
import GoSem.ClaimJoined
import GoSem.ClaimMapViews
import Derived.JoinedTies
import Derived.KernelRfl
namespace Go.Proofs.Qxb6601183aMods
/- THE CELL 'sum', in the pinned program and in every row, IS THE sha256 OF THE DUMP (.gsa) THAT Qxb6601183aModsProg.lean LOADS. Nothing in Lean hashes anything: it is a label: what it is worth is what the hold of that sum in a sandbox is worth. -/
noncomputable def Trym.pinned : Pinned := { name := "qxb6601183amods", sum := "93cac16bb8013cd5487deae798209ba9e16f39b623c8b59de411ac968a480c24", checked := Trym.checked }
namespace Rows
def none {H : Type} : Left H := { results := [], args := [] }

/-- 'zzlaws_root_b1.FnSharedStartIsLongestCommonPrefix': WHATEVER THE INPUT: true; the input reads as it did. -/
def fnSharedStartIsLongestCommonPrefixSpec : ChangeSpec := { name := "fnSharedStartIsLongestCommonPrefix", fn := fun _ => fun
  | [d1, d2, d3, d4] => { results := [.lit (.bool true)], args := [d1, d2, d3, d4] }
  | _ => none }
def fnSharedStartIsLongestCommonPrefixRow : OpenClaim := { program := "qxb6601183amods", sum := "93cac16bb8013cd5487deae798209ba9e16f39b623c8b59de411ac968a480c24", func := "example.com/ballotwright/ballotwright/zzlaws_root_b1.FnSharedStartIsLongestCommonPrefix", spec := "fnSharedStartIsLongestCommonPrefix", make := .lifted ["publicsums"], apart := false }
def FnSharedStartIsLongestCommonPrefixSaid : Prop := fnSharedStartIsLongestCommonPrefixRow.holds Trym.pinned (OpenSpec.ofChange fnSharedStartIsLongestCommonPrefixSpec)

/-- ITS FALSE NEIGHBOUR: 'it returns false'. Refute it at one input. -/
def fnSharedStartIsLongestCommonPrefixWrong : ChangeSpec := { name := "fnSharedStartIsLongestCommonPrefix", fn := fun _ => fun
  | [d1, d2, d3, d4] => { results := [.lit (.bool false)], args := [d1, d2, d3, d4] }
  | _ => none }
def FnSharedStartIsLongestCommonPrefixWrongFalsely : Prop := fnSharedStartIsLongestCommonPrefixRow.holds Trym.pinned (OpenSpec.ofChange fnSharedStartIsLongestCommonPrefixWrong)

/-- 'zzlaws_root_b1.FnSharedStartOverOneListIsTheShorter': WHATEVER THE INPUT: true; the input reads as it did. -/
def fnSharedStartOverOneListIsTheShorterSpec : ChangeSpec := { name := "fnSharedStartOverOneListIsTheShorter", fn := fun _ => fun
  | [d1, d2, d3, d4] => { results := [.lit (.bool true)], args := [d1, d2, d3, d4] }
  | _ => none }
def fnSharedStartOverOneListIsTheShorterRow : OpenClaim := { program := "qxb6601183amods", sum := "93cac16bb8013cd5487deae798209ba9e16f39b623c8b59de411ac968a480c24", func := "example.com/ballotwright/ballotwright/zzlaws_root_b1.FnSharedStartOverOneListIsTheShorter", spec := "fnSharedStartOverOneListIsTheShorter", make := .lifted ["publicsums"], apart := false }
def FnSharedStartOverOneListIsTheShorterSaid : Prop := fnSharedStartOverOneListIsTheShorterRow.holds Trym.pinned (OpenSpec.ofChange fnSharedStartOverOneListIsTheShorterSpec)

/-- ITS FALSE NEIGHBOUR: 'it returns false'. Refute it at one input. -/
def fnSharedStartOverOneListIsTheShorterWrong : ChangeSpec := { name := "fnSharedStartOverOneListIsTheShorter", fn := fun _ => fun
  | [d1, d2, d3, d4] => { results := [.lit (.bool false)], args := [d1, d2, d3, d4] }
  | _ => none }
def FnSharedStartOverOneListIsTheShorterWrongFalsely : Prop := fnSharedStartOverOneListIsTheShorterRow.holds Trym.pinned (OpenSpec.ofChange fnSharedStartOverOneListIsTheShorterWrong)

/-- 'zzlaws_root_b1.FnSharedStartCommonHeadAddsItsLength': WHATEVER THE INPUT: true; the input reads as it did. -/
def fnSharedStartCommonHeadAddsItsLengthSpec : ChangeSpec := { name := "fnSharedStartCommonHeadAddsItsLength", fn := fun _ => fun
  | [d1, d2, d3, d4, d5, d6] => { results := [.lit (.bool true)], args := [d1, d2, d3, d4, d5, d6] }
  | _ => none }
def fnSharedStartCommonHeadAddsItsLengthRow : OpenClaim := { program := "qxb6601183amods", sum := "93cac16bb8013cd5487deae798209ba9e16f39b623c8b59de411ac968a480c24", func := "example.com/ballotwright/ballotwright/zzlaws_root_b1.FnSharedStartCommonHeadAddsItsLength", spec := "fnSharedStartCommonHeadAddsItsLength", make := .lifted ["publicsums"], apart := false }
def FnSharedStartCommonHeadAddsItsLengthSaid : Prop := fnSharedStartCommonHeadAddsItsLengthRow.holds Trym.pinned (OpenSpec.ofChange fnSharedStartCommonHeadAddsItsLengthSpec)

/-- ITS FALSE NEIGHBOUR: 'it returns false'. Refute it at one input. -/
def fnSharedStartCommonHeadAddsItsLengthWrong : ChangeSpec := { name := "fnSharedStartCommonHeadAddsItsLength", fn := fun _ => fun
  | [d1, d2, d3, d4, d5, d6] => { results := [.lit (.bool false)], args := [d1, d2, d3, d4, d5, d6] }
  | _ => none }
def FnSharedStartCommonHeadAddsItsLengthWrongFalsely : Prop := fnSharedStartCommonHeadAddsItsLengthRow.holds Trym.pinned (OpenSpec.ofChange fnSharedStartCommonHeadAddsItsLengthWrong)

/-- 'zzlaws_root_b1.FnLargestIsLeastNameOfTheMost': WHATEVER THE INPUT: true; the input reads as it did. -/
def fnLargestIsLeastNameOfTheMostSpec : ChangeSpec := { name := "fnLargestIsLeastNameOfTheMost", fn := fun _ => fun
  | [d1, d2, d3, d4, d5, d6, d7] => { results := [.lit (.bool true)], args := [d1, d2, d3, d4, d5, d6, d7] }
  | _ => none }
def fnLargestIsLeastNameOfTheMostRow : OpenClaim := { program := "qxb6601183amods", sum := "93cac16bb8013cd5487deae798209ba9e16f39b623c8b59de411ac968a480c24", func := "example.com/ballotwright/ballotwright/zzlaws_root_b1.FnLargestIsLeastNameOfTheMost", spec := "fnLargestIsLeastNameOfTheMost", make := .lifted ["publicsums"], apart := false }
def FnLargestIsLeastNameOfTheMostSaid : Prop := fnLargestIsLeastNameOfTheMostRow.holds Trym.pinned (OpenSpec.ofChange fnLargestIsLeastNameOfTheMostSpec)

/-- ITS FALSE NEIGHBOUR: 'it returns false'. Refute it at one input. -/
def fnLargestIsLeastNameOfTheMostWrong : ChangeSpec := { name := "fnLargestIsLeastNameOfTheMost", fn := fun _ => fun
  | [d1, d2, d3, d4, d5, d6, d7] => { results := [.lit (.bool false)], args := [d1, d2, d3, d4, d5, d6, d7] }
  | _ => none }
def FnLargestIsLeastNameOfTheMostWrongFalsely : Prop := fnLargestIsLeastNameOfTheMostRow.holds Trym.pinned (OpenSpec.ofChange fnLargestIsLeastNameOfTheMostWrong)

/-- 'zzlaws_root_b1.FnLargestKeepsAWinnerThatGrows': WHATEVER THE INPUT: true; the input reads as it did. -/
def fnLargestKeepsAWinnerThatGrowsSpec : ChangeSpec := { name := "fnLargestKeepsAWinnerThatGrows", fn := fun _ => fun
  | [d1, d2, d3, d4, d5, d6, d7, d8, d9, d10] => { results := [.lit (.bool true)], args := [d1, d2, d3, d4, d5, d6, d7, d8, d9, d10] }
  | _ => none }
def fnLargestKeepsAWinnerThatGrowsRow : OpenClaim := { program := "qxb6601183amods", sum := "93cac16bb8013cd5487deae798209ba9e16f39b623c8b59de411ac968a480c24", func := "example.com/ballotwright/ballotwright/zzlaws_root_b1.FnLargestKeepsAWinnerThatGrows", spec := "fnLargestKeepsAWinnerThatGrows", make := .lifted ["publicsums"], apart := false }
def FnLargestKeepsAWinnerThatGrowsSaid : Prop := fnLargestKeepsAWinnerThatGrowsRow.holds Trym.pinned (OpenSpec.ofChange fnLargestKeepsAWinnerThatGrowsSpec)

/-- ITS FALSE NEIGHBOUR: 'it returns false'. Refute it at one input. -/
def fnLargestKeepsAWinnerThatGrowsWrong : ChangeSpec := { name := "fnLargestKeepsAWinnerThatGrows", fn := fun _ => fun
  | [d1, d2, d3, d4, d5, d6, d7, d8, d9, d10] => { results := [.lit (.bool false)], args := [d1, d2, d3, d4, d5, d6, d7, d8, d9, d10] }
  | _ => none }
def FnLargestKeepsAWinnerThatGrowsWrongFalsely : Prop := fnLargestKeepsAWinnerThatGrowsRow.holds Trym.pinned (OpenSpec.ofChange fnLargestKeepsAWinnerThatGrowsWrong)

/-- 'zzlaws_root_b1.FnLargestKeepsTheWinnerWhenAnotherLeaves': WHATEVER THE INPUT: true; the input reads as it did. -/
def fnLargestKeepsTheWinnerWhenAnotherLeavesSpec : ChangeSpec := { name := "fnLargestKeepsTheWinnerWhenAnotherLeaves", fn := fun _ => fun
  | [d1, d2, d3, d4, d5, d6, d7, d8] => { results := [.lit (.bool true)], args := [d1, d2, d3, d4, d5, d6, d7, d8] }
  | _ => none }
def fnLargestKeepsTheWinnerWhenAnotherLeavesRow : OpenClaim := { program := "qxb6601183amods", sum := "93cac16bb8013cd5487deae798209ba9e16f39b623c8b59de411ac968a480c24", func := "example.com/ballotwright/ballotwright/zzlaws_root_b1.FnLargestKeepsTheWinnerWhenAnotherLeaves", spec := "fnLargestKeepsTheWinnerWhenAnotherLeaves", make := .lifted ["publicsums"], apart := false }
def FnLargestKeepsTheWinnerWhenAnotherLeavesSaid : Prop := fnLargestKeepsTheWinnerWhenAnotherLeavesRow.holds Trym.pinned (OpenSpec.ofChange fnLargestKeepsTheWinnerWhenAnotherLeavesSpec)

/-- ITS FALSE NEIGHBOUR: 'it returns false'. Refute it at one input. -/
def fnLargestKeepsTheWinnerWhenAnotherLeavesWrong : ChangeSpec := { name := "fnLargestKeepsTheWinnerWhenAnotherLeaves", fn := fun _ => fun
  | [d1, d2, d3, d4, d5, d6, d7, d8] => { results := [.lit (.bool false)], args := [d1, d2, d3, d4, d5, d6, d7, d8] }
  | _ => none }
def FnLargestKeepsTheWinnerWhenAnotherLeavesWrongFalsely : Prop := fnLargestKeepsTheWinnerWhenAnotherLeavesRow.holds Trym.pinned (OpenSpec.ofChange fnLargestKeepsTheWinnerWhenAnotherLeavesWrong)

end Rows
end Go.Proofs.Qxb6601183aMods
