/-
  No cell of these rows narrows 'for every input' (looked for: loops, veiled, ifaces, maps, wideKeys, modest, calm, conditions, laid).
  DERIVED. THE GIVEN ROWS OF THIS SEAT. 6 by the template 'for every input the law returns true; each argument reads behind the call as it read before'; 0 by the template 'total and deterministic' (their statements: Qxb6604652aModsTotals.lean).
  GIVEN WITH THE SEED: the statements are not yours to turn. If you find one false, say at which input.
  Laid BY PROGRAM, IN A SANDBOX (cutbox-rows.mjs): the forced cells as the released guide's own fill.sh prints them over the translation 14df61e8ba7b3ac4… (all of the seat's roots in one cut). By AI agents, Wed Nov 11 2026. No macro, syntax, notation, axiom, sorry.
-/
import Derived.Test.Qxb6604652aModsChecked
import GoSem.Claim
import GoSem.ClaimJoined
import GoSem.ClaimMapViews
import Derived.JoinedTies
import Derived.KernelRfl
namespace Go.Proofs.Qxb6604652aMods
/- THE CELL 'sum', in the pinned program and in every row, IS THE sha256 OF THE DUMP (.gsa) THAT Qxb6604652aModsProg.lean LOADS. Nothing in Lean hashes anything: it is a label: what it is worth is what the hold of that sum in a sandbox is worth. -/
noncomputable def Trym.pinned : Pinned := { name := "qxb6604652amods", sum := "14df61e8ba7b3ac456c018ee6e5ee95f16b2ad3ae75c63611b49be0335c4f3e5", checked := Trym.checked }
namespace Rows
def none {H : Type} : Left H := { results := [], args := [] }

/-- 'zzlaws_root_b1.FnGuessAtLeastCountReachingFraction': WHATEVER THE INPUT: true; the input reads as it did. -/
def fnGuessAtLeastCountReachingFractionSpec : ChangeSpec := { name := "fnGuessAtLeastCountReachingFraction", fn := fun _ => fun
  | [d1, d2, d3, d4] => { results := [.lit (.bool true)], args := [d1, d2, d3, d4] }
  | _ => none }
def fnGuessAtLeastCountReachingFractionRow : OpenClaim := { program := "qxb6604652amods", sum := "14df61e8ba7b3ac456c018ee6e5ee95f16b2ad3ae75c63611b49be0335c4f3e5", func := "example.com/persistent-segment-log/persistent-segment-log/zzlaws_root_b1.FnGuessAtLeastCountReachingFraction", spec := "fnGuessAtLeastCountReachingFraction", inPlace := ["math.archCeil", "math.archFloor", "math.Float64bits", "math.Float64frombits", "math.archTrunc"], make := .lifted ["publicsums"], apart := false }
def FnGuessAtLeastCountReachingFractionSaid : Prop := fnGuessAtLeastCountReachingFractionRow.holds Trym.pinned (OpenSpec.ofChange fnGuessAtLeastCountReachingFractionSpec)

/-- ITS FALSE NEIGHBOUR: 'it returns false'. Refute it at one input. -/
def fnGuessAtLeastCountReachingFractionWrong : ChangeSpec := { name := "fnGuessAtLeastCountReachingFraction", fn := fun _ => fun
  | [d1, d2, d3, d4] => { results := [.lit (.bool false)], args := [d1, d2, d3, d4] }
  | _ => none }
def FnGuessAtLeastCountReachingFractionWrongFalsely : Prop := fnGuessAtLeastCountReachingFractionRow.holds Trym.pinned (OpenSpec.ofChange fnGuessAtLeastCountReachingFractionWrong)

/-- 'zzlaws_root_b1.FnGuessAtEvenKeysExact': WHATEVER THE INPUT: true; the input reads as it did. -/
def fnGuessAtEvenKeysExactSpec : ChangeSpec := { name := "fnGuessAtEvenKeysExact", fn := fun _ => fun
  | [d1, d2, d3, d4] => { results := [.lit (.bool true)], args := [d1, d2, d3, d4] }
  | _ => none }
def fnGuessAtEvenKeysExactRow : OpenClaim := { program := "qxb6604652amods", sum := "14df61e8ba7b3ac456c018ee6e5ee95f16b2ad3ae75c63611b49be0335c4f3e5", func := "example.com/persistent-segment-log/persistent-segment-log/zzlaws_root_b1.FnGuessAtEvenKeysExact", spec := "fnGuessAtEvenKeysExact", inPlace := ["math.archCeil", "math.archFloor", "math.Float64bits", "math.Float64frombits", "math.archTrunc"], make := .lifted ["publicsums"], apart := false }
def FnGuessAtEvenKeysExactSaid : Prop := fnGuessAtEvenKeysExactRow.holds Trym.pinned (OpenSpec.ofChange fnGuessAtEvenKeysExactSpec)

/-- ITS FALSE NEIGHBOUR: 'it returns false'. Refute it at one input. -/
def fnGuessAtEvenKeysExactWrong : ChangeSpec := { name := "fnGuessAtEvenKeysExact", fn := fun _ => fun
  | [d1, d2, d3, d4] => { results := [.lit (.bool false)], args := [d1, d2, d3, d4] }
  | _ => none }
def FnGuessAtEvenKeysExactWrongFalsely : Prop := fnGuessAtEvenKeysExactRow.holds Trym.pinned (OpenSpec.ofChange fnGuessAtEvenKeysExactWrong)

/-- 'zzlaws_root_b1.FnAppendNullableExact': WHATEVER THE INPUT: true; the input reads as it did. -/
def fnAppendNullableExactSpec : ChangeSpec := { name := "fnAppendNullableExact", fn := fun _ => fun
  | [d1, d2] => { results := [.lit (.bool true)], args := [d1, d2] }
  | _ => none }
def fnAppendNullableExactRow : OpenClaim := { program := "qxb6604652amods", sum := "14df61e8ba7b3ac456c018ee6e5ee95f16b2ad3ae75c63611b49be0335c4f3e5", func := "example.com/persistent-segment-log/persistent-segment-log/zzlaws_root_b1.FnAppendNullableExact", spec := "fnAppendNullableExact", make := .lifted ["publicsums"], apart := false }
def FnAppendNullableExactSaid : Prop := fnAppendNullableExactRow.holds Trym.pinned (OpenSpec.ofChange fnAppendNullableExactSpec)

/-- ITS FALSE NEIGHBOUR: 'it returns false'. Refute it at one input. -/
def fnAppendNullableExactWrong : ChangeSpec := { name := "fnAppendNullableExact", fn := fun _ => fun
  | [d1, d2] => { results := [.lit (.bool false)], args := [d1, d2] }
  | _ => none }
def FnAppendNullableExactWrongFalsely : Prop := fnAppendNullableExactRow.holds Trym.pinned (OpenSpec.ofChange fnAppendNullableExactWrong)

/-- 'zzlaws_root_b1.FnAppendNullableTwoRecordsReadBack': WHATEVER THE INPUT: true; the input reads as it did. -/
def fnAppendNullableTwoRecordsReadBackSpec : ChangeSpec := { name := "fnAppendNullableTwoRecordsReadBack", fn := fun _ => fun
  | [d1, d2, d3] => { results := [.lit (.bool true)], args := [d1, d2, d3] }
  | _ => none }
def fnAppendNullableTwoRecordsReadBackRow : OpenClaim := { program := "qxb6604652amods", sum := "14df61e8ba7b3ac456c018ee6e5ee95f16b2ad3ae75c63611b49be0335c4f3e5", func := "example.com/persistent-segment-log/persistent-segment-log/zzlaws_root_b1.FnAppendNullableTwoRecordsReadBack", spec := "fnAppendNullableTwoRecordsReadBack", make := .lifted ["publicsums"], apart := false }
def FnAppendNullableTwoRecordsReadBackSaid : Prop := fnAppendNullableTwoRecordsReadBackRow.holds Trym.pinned (OpenSpec.ofChange fnAppendNullableTwoRecordsReadBackSpec)

/-- ITS FALSE NEIGHBOUR: 'it returns false'. Refute it at one input. -/
def fnAppendNullableTwoRecordsReadBackWrong : ChangeSpec := { name := "fnAppendNullableTwoRecordsReadBack", fn := fun _ => fun
  | [d1, d2, d3] => { results := [.lit (.bool false)], args := [d1, d2, d3] }
  | _ => none }
def FnAppendNullableTwoRecordsReadBackWrongFalsely : Prop := fnAppendNullableTwoRecordsReadBackRow.holds Trym.pinned (OpenSpec.ofChange fnAppendNullableTwoRecordsReadBackWrong)

/-- 'zzlaws_root_b1.FnTimeEntryRelBytes8to11': WHATEVER THE INPUT: true; the input reads as it did. -/
def fnTimeEntryRelBytes8to11Spec : ChangeSpec := { name := "fnTimeEntryRelBytes8to11", fn := fun _ => fun
  | [d] => { results := [.lit (.bool true)], args := [d] }
  | _ => none }
def fnTimeEntryRelBytes8to11Row : OpenClaim := { program := "qxb6604652amods", sum := "14df61e8ba7b3ac456c018ee6e5ee95f16b2ad3ae75c63611b49be0335c4f3e5", func := "example.com/persistent-segment-log/persistent-segment-log/zzlaws_root_b1.FnTimeEntryRelBytes8to11", spec := "fnTimeEntryRelBytes8to11", named := ["encoding/binary.BigEndian"], make := .lifted ["publicsums"], apart := false }
def FnTimeEntryRelBytes8to11Said : Prop := fnTimeEntryRelBytes8to11Row.holds Trym.pinned (OpenSpec.ofChange fnTimeEntryRelBytes8to11Spec)

/-- ITS FALSE NEIGHBOUR: 'it returns false'. Refute it at one input. -/
def fnTimeEntryRelBytes8to11Wrong : ChangeSpec := { name := "fnTimeEntryRelBytes8to11", fn := fun _ => fun
  | [d] => { results := [.lit (.bool false)], args := [d] }
  | _ => none }
def FnTimeEntryRelBytes8to11WrongFalsely : Prop := fnTimeEntryRelBytes8to11Row.holds Trym.pinned (OpenSpec.ofChange fnTimeEntryRelBytes8to11Wrong)

/-- 'zzlaws_root_b1.FnTimeEntryRelReadsEveryEntry': WHATEVER THE INPUT: true; the input reads as it did. -/
def fnTimeEntryRelReadsEveryEntrySpec : ChangeSpec := { name := "fnTimeEntryRelReadsEveryEntry", fn := fun _ => fun
  | [d1, d2] => { results := [.lit (.bool true)], args := [d1, d2] }
  | _ => none }
def fnTimeEntryRelReadsEveryEntryRow : OpenClaim := { program := "qxb6604652amods", sum := "14df61e8ba7b3ac456c018ee6e5ee95f16b2ad3ae75c63611b49be0335c4f3e5", func := "example.com/persistent-segment-log/persistent-segment-log/zzlaws_root_b1.FnTimeEntryRelReadsEveryEntry", spec := "fnTimeEntryRelReadsEveryEntry", named := ["encoding/binary.BigEndian"], make := .lifted ["publicsums"], apart := false }
def FnTimeEntryRelReadsEveryEntrySaid : Prop := fnTimeEntryRelReadsEveryEntryRow.holds Trym.pinned (OpenSpec.ofChange fnTimeEntryRelReadsEveryEntrySpec)

/-- ITS FALSE NEIGHBOUR: 'it returns false'. Refute it at one input. -/
def fnTimeEntryRelReadsEveryEntryWrong : ChangeSpec := { name := "fnTimeEntryRelReadsEveryEntry", fn := fun _ => fun
  | [d1, d2] => { results := [.lit (.bool false)], args := [d1, d2] }
  | _ => none }
def FnTimeEntryRelReadsEveryEntryWrongFalsely : Prop := fnTimeEntryRelReadsEveryEntryRow.holds Trym.pinned (OpenSpec.ofChange fnTimeEntryRelReadsEveryEntryWrong)

end Rows
end Go.Proofs.Qxb6604652aMods
