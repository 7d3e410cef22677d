/-
  No cell of these rows narrows 'for every input' (looked for: loops, veiled, ifaces, maps, wideKeys, modest, calm, conditions, laid).
  DERIVED. THE GIVEN ROWS OF THIS SEAT. 6 by the template 'for every input the law returns true; each argument reads behind the call as it read before'; 0 by the template 'total and deterministic' (their statements: Qxb6001727aModsTotals.lean).
  GIVEN WITH THE SEED: the statements are not yours to turn. If you find one false, say at which input.
  Laid BY PROGRAM, IN A SANDBOX (cutbox-rows.mjs): the forced cells as the released guide's own fill.sh prints them over the translation 2b2461717986f0d6… (all of the seat's roots in one cut). By AI agents, Wed Nov 11 2026. No macro, syntax, notation, axiom, sorry.
-/
import Derived.Test.Qxb6001727aModsChecked
import GoSem.Claim
import GoSem.ClaimJoined
import GoSem.ClaimMapViews
import Derived.JoinedTies
import Derived.KernelRfl
namespace Go.Proofs.Qxb6001727aMods
/- THE CELL 'sum', in the pinned program and in every row, IS THE sha256 OF THE DUMP (.gsa) THAT Qxb6001727aModsProg.lean LOADS. Nothing in Lean hashes anything: it is a label: what it is worth is what the hold of that sum in a sandbox is worth. -/
noncomputable def Trym.pinned : Pinned := { name := "qxb6001727amods", sum := "2b2461717986f0d68cfc1ee670c41cc58fdb80880aa8e9dff55f67231d699dd2", checked := Trym.checked }
namespace Rows
def none {H : Type} : Left H := { results := [], args := [] }

/-- 'zzlaws_internal_agreement_b1.FnModeSameInEveryEpoch': WHATEVER THE INPUT: true; the input reads as it did. -/
def fnModeSameInEveryEpochSpec : ChangeSpec := { name := "fnModeSameInEveryEpoch", fn := fun _ => fun
  | [d1, d2, d3] => { results := [.lit (.bool true)], args := [d1, d2, d3] }
  | _ => none }
def fnModeSameInEveryEpochRow : OpenClaim := { program := "qxb6001727amods", sum := "2b2461717986f0d68cfc1ee670c41cc58fdb80880aa8e9dff55f67231d699dd2", func := "example.com/parsimon/parsimon/zzlaws_internal_agreement_b1.FnModeSameInEveryEpoch", spec := "fnModeSameInEveryEpoch", make := .lifted ["publicsums"], apart := false }
def FnModeSameInEveryEpochSaid : Prop := fnModeSameInEveryEpochRow.holds Trym.pinned (OpenSpec.ofChange fnModeSameInEveryEpochSpec)

/-- ITS FALSE NEIGHBOUR: 'it returns false'. Refute it at one input. -/
def fnModeSameInEveryEpochWrong : ChangeSpec := { name := "fnModeSameInEveryEpoch", fn := fun _ => fun
  | [d1, d2, d3] => { results := [.lit (.bool false)], args := [d1, d2, d3] }
  | _ => none }
def FnModeSameInEveryEpochWrongFalsely : Prop := fnModeSameInEveryEpochRow.holds Trym.pinned (OpenSpec.ofChange fnModeSameInEveryEpochWrong)

/-- 'zzlaws_internal_agreement_b1.FnOfSameInEveryEpoch': WHATEVER THE INPUT: true; the input reads as it did. -/
def fnOfSameInEveryEpochSpec : ChangeSpec := { name := "fnOfSameInEveryEpoch", fn := fun _ => fun
  | [d1, d2, d3, d4, d5, d6, d7] => { results := [.lit (.bool true)], args := [d1, d2, d3, d4, d5, d6, d7] }
  | _ => none }
def fnOfSameInEveryEpochRow : OpenClaim := { program := "qxb6001727amods", sum := "2b2461717986f0d68cfc1ee670c41cc58fdb80880aa8e9dff55f67231d699dd2", func := "example.com/parsimon/parsimon/zzlaws_internal_agreement_b1.FnOfSameInEveryEpoch", spec := "fnOfSameInEveryEpoch", make := .lifted ["publicsums"], apart := false }
def FnOfSameInEveryEpochSaid : Prop := fnOfSameInEveryEpochRow.holds Trym.pinned (OpenSpec.ofChange fnOfSameInEveryEpochSpec)

/-- ITS FALSE NEIGHBOUR: 'it returns false'. Refute it at one input. -/
def fnOfSameInEveryEpochWrong : ChangeSpec := { name := "fnOfSameInEveryEpoch", fn := fun _ => fun
  | [d1, d2, d3, d4, d5, d6, d7] => { results := [.lit (.bool false)], args := [d1, d2, d3, d4, d5, d6, d7] }
  | _ => none }
def FnOfSameInEveryEpochWrongFalsely : Prop := fnOfSameInEveryEpochRow.holds Trym.pinned (OpenSpec.ofChange fnOfSameInEveryEpochWrong)

/-- 'zzlaws_internal_agreement_b1.FnGroupsCloneSharesNoMemory': WHATEVER THE INPUT: true; the input reads as it did. -/
def fnGroupsCloneSharesNoMemorySpec : ChangeSpec := { name := "fnGroupsCloneSharesNoMemory", fn := fun _ => fun
  | [d1, d2, d3, d4, d5] => { results := [.lit (.bool true)], args := [d1, d2, d3, d4, d5] }
  | _ => none }
def fnGroupsCloneSharesNoMemoryRow : OpenClaim := { program := "qxb6001727amods", sum := "2b2461717986f0d68cfc1ee670c41cc58fdb80880aa8e9dff55f67231d699dd2", func := "example.com/parsimon/parsimon/zzlaws_internal_agreement_b1.FnGroupsCloneSharesNoMemory", spec := "fnGroupsCloneSharesNoMemory", make := .lifted ["publicsums"], apart := false }
def FnGroupsCloneSharesNoMemorySaid : Prop := fnGroupsCloneSharesNoMemoryRow.holds Trym.pinned (OpenSpec.ofChange fnGroupsCloneSharesNoMemorySpec)

/-- ITS FALSE NEIGHBOUR: 'it returns false'. Refute it at one input. -/
def fnGroupsCloneSharesNoMemoryWrong : ChangeSpec := { name := "fnGroupsCloneSharesNoMemory", fn := fun _ => fun
  | [d1, d2, d3, d4, d5] => { results := [.lit (.bool false)], args := [d1, d2, d3, d4, d5] }
  | _ => none }
def FnGroupsCloneSharesNoMemoryWrongFalsely : Prop := fnGroupsCloneSharesNoMemoryRow.holds Trym.pinned (OpenSpec.ofChange fnGroupsCloneSharesNoMemoryWrong)

/-- 'zzlaws_internal_agreement_b1.FnGroupsCloneKeepsModeAndOf': WHATEVER THE INPUT: true; the input reads as it did. -/
def fnGroupsCloneKeepsModeAndOfSpec : ChangeSpec := { name := "fnGroupsCloneKeepsModeAndOf", fn := fun _ => fun
  | [d1, d2, d3, d4, d5, d6] => { results := [.lit (.bool true)], args := [d1, d2, d3, d4, d5, d6] }
  | _ => none }
def fnGroupsCloneKeepsModeAndOfRow : OpenClaim := { program := "qxb6001727amods", sum := "2b2461717986f0d68cfc1ee670c41cc58fdb80880aa8e9dff55f67231d699dd2", func := "example.com/parsimon/parsimon/zzlaws_internal_agreement_b1.FnGroupsCloneKeepsModeAndOf", spec := "fnGroupsCloneKeepsModeAndOf", make := .lifted ["publicsums"], apart := false }
def FnGroupsCloneKeepsModeAndOfSaid : Prop := fnGroupsCloneKeepsModeAndOfRow.holds Trym.pinned (OpenSpec.ofChange fnGroupsCloneKeepsModeAndOfSpec)

/-- ITS FALSE NEIGHBOUR: 'it returns false'. Refute it at one input. -/
def fnGroupsCloneKeepsModeAndOfWrong : ChangeSpec := { name := "fnGroupsCloneKeepsModeAndOf", fn := fun _ => fun
  | [d1, d2, d3, d4, d5, d6] => { results := [.lit (.bool false)], args := [d1, d2, d3, d4, d5, d6] }
  | _ => none }
def FnGroupsCloneKeepsModeAndOfWrongFalsely : Prop := fnGroupsCloneKeepsModeAndOfRow.holds Trym.pinned (OpenSpec.ofChange fnGroupsCloneKeepsModeAndOfWrong)

/-- 'zzlaws_internal_agreement_b1.FnGroupCloneSharesNoMemory': WHATEVER THE INPUT: true; the input reads as it did. -/
def fnGroupCloneSharesNoMemorySpec : ChangeSpec := { name := "fnGroupCloneSharesNoMemory", fn := fun _ => fun
  | [d1, d2] => { results := [.lit (.bool true)], args := [d1, d2] }
  | _ => none }
def fnGroupCloneSharesNoMemoryRow : OpenClaim := { program := "qxb6001727amods", sum := "2b2461717986f0d68cfc1ee670c41cc58fdb80880aa8e9dff55f67231d699dd2", func := "example.com/parsimon/parsimon/zzlaws_internal_agreement_b1.FnGroupCloneSharesNoMemory", spec := "fnGroupCloneSharesNoMemory", make := .lifted ["publicsums"], apart := false }
def FnGroupCloneSharesNoMemorySaid : Prop := fnGroupCloneSharesNoMemoryRow.holds Trym.pinned (OpenSpec.ofChange fnGroupCloneSharesNoMemorySpec)

/-- ITS FALSE NEIGHBOUR: 'it returns false'. Refute it at one input. -/
def fnGroupCloneSharesNoMemoryWrong : ChangeSpec := { name := "fnGroupCloneSharesNoMemory", fn := fun _ => fun
  | [d1, d2] => { results := [.lit (.bool false)], args := [d1, d2] }
  | _ => none }
def FnGroupCloneSharesNoMemoryWrongFalsely : Prop := fnGroupCloneSharesNoMemoryRow.holds Trym.pinned (OpenSpec.ofChange fnGroupCloneSharesNoMemoryWrong)

/-- 'zzlaws_internal_agreement_b1.FnGroupCloneKeepsUpdater': WHATEVER THE INPUT: true; the input reads as it did. -/
def fnGroupCloneKeepsUpdaterSpec : ChangeSpec := { name := "fnGroupCloneKeepsUpdater", fn := fun _ => fun
  | [d1, d2, d3] => { results := [.lit (.bool true)], args := [d1, d2, d3] }
  | _ => none }
def fnGroupCloneKeepsUpdaterRow : OpenClaim := { program := "qxb6001727amods", sum := "2b2461717986f0d68cfc1ee670c41cc58fdb80880aa8e9dff55f67231d699dd2", func := "example.com/parsimon/parsimon/zzlaws_internal_agreement_b1.FnGroupCloneKeepsUpdater", spec := "fnGroupCloneKeepsUpdater", make := .lifted ["publicsums"], apart := false }
def FnGroupCloneKeepsUpdaterSaid : Prop := fnGroupCloneKeepsUpdaterRow.holds Trym.pinned (OpenSpec.ofChange fnGroupCloneKeepsUpdaterSpec)

/-- ITS FALSE NEIGHBOUR: 'it returns false'. Refute it at one input. -/
def fnGroupCloneKeepsUpdaterWrong : ChangeSpec := { name := "fnGroupCloneKeepsUpdater", fn := fun _ => fun
  | [d1, d2, d3] => { results := [.lit (.bool false)], args := [d1, d2, d3] }
  | _ => none }
def FnGroupCloneKeepsUpdaterWrongFalsely : Prop := fnGroupCloneKeepsUpdaterRow.holds Trym.pinned (OpenSpec.ofChange fnGroupCloneKeepsUpdaterWrong)

end Rows
end Go.Proofs.Qxb6001727aMods
