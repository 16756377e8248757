/-
  No cell of these rows narrows 'for every input' (looked for: loops, veiled, ifaces, maps, wideKeys, modest, calm, conditions, laid).
  DERIVED. THE GIVEN ROWS OF THIS SEAT. 4 by the template 'for every input the law returns true; each argument reads behind the call as it read before'; 0 by the template 'total and deterministic' (their statements: Qxb6604649aModsTotals.lean).
  GIVEN WITH THE SEED: the statements are not yours to turn. If you find one false, say at which input.
  Laid BY PROGRAM, IN A SANDBOX (cutbox-rows.mjs): the forced cells as the released guide's own fill.sh prints them over the translation ab3d816d2903148e… (all of the seat's roots in one cut). By AI agents, Wed Nov 11 2026. No macro, syntax, notation, axiom, sorry.
-/
import Derived.Test.Qxb6604649aModsChecked
import GoSem.Claim
import GoSem.ClaimJoined
import GoSem.ClaimMapViews
import Derived.JoinedTies
import Derived.KernelRfl
namespace Go.Proofs.Qxb6604649aMods
/- THE CELL 'sum', in the pinned program and in every row, IS THE sha256 OF THE DUMP (.gsa) THAT Qxb6604649aModsProg.lean LOADS. Nothing in Lean hashes anything: it is a label: what it is worth is what the hold of that sum in a sandbox is worth. -/
noncomputable def Trym.pinned : Pinned := { name := "qxb6604649amods", sum := "ab3d816d2903148ee1f66471fd8e1d4e29595b5974ddf1fd1eb8fec0ed798847", checked := Trym.checked }
namespace Rows
def none {H : Type} : Left H := { results := [], args := [] }

/-- 'zzlaws_internal_store_b1.FnSeedLevelClosedForm': WHATEVER THE INPUT: true; the input reads as it did. -/
def fnSeedLevelClosedFormSpec : ChangeSpec := { name := "fnSeedLevelClosedForm", fn := fun _ => fun
  | [d] => { results := [.lit (.bool true)], args := [d] }
  | _ => none }
def fnSeedLevelClosedFormRow : OpenClaim := { program := "qxb6604649amods", sum := "ab3d816d2903148ee1f66471fd8e1d4e29595b5974ddf1fd1eb8fec0ed798847", func := "example.com/veridice/veridice/zzlaws_internal_store_b1.FnSeedLevelClosedForm", spec := "fnSeedLevelClosedForm", make := .lifted ["publicsums"], apart := false }
def FnSeedLevelClosedFormSaid : Prop := fnSeedLevelClosedFormRow.holds Trym.pinned (OpenSpec.ofChange fnSeedLevelClosedFormSpec)

/-- ITS FALSE NEIGHBOUR: 'it returns false'. Refute it at one input. -/
def fnSeedLevelClosedFormWrong : ChangeSpec := { name := "fnSeedLevelClosedForm", fn := fun _ => fun
  | [d] => { results := [.lit (.bool false)], args := [d] }
  | _ => none }
def FnSeedLevelClosedFormWrongFalsely : Prop := fnSeedLevelClosedFormRow.holds Trym.pinned (OpenSpec.ofChange fnSeedLevelClosedFormWrong)

/-- 'zzlaws_internal_store_b1.FnSeedLevelFillsLevelsInOrder': WHATEVER THE INPUT: true; the input reads as it did. -/
def fnSeedLevelFillsLevelsInOrderSpec : ChangeSpec := { name := "fnSeedLevelFillsLevelsInOrder", fn := fun _ => fun
  | [d1, d2] => { results := [.lit (.bool true)], args := [d1, d2] }
  | _ => none }
def fnSeedLevelFillsLevelsInOrderRow : OpenClaim := { program := "qxb6604649amods", sum := "ab3d816d2903148ee1f66471fd8e1d4e29595b5974ddf1fd1eb8fec0ed798847", func := "example.com/veridice/veridice/zzlaws_internal_store_b1.FnSeedLevelFillsLevelsInOrder", spec := "fnSeedLevelFillsLevelsInOrder", make := .lifted ["publicsums"], apart := false }
def FnSeedLevelFillsLevelsInOrderSaid : Prop := fnSeedLevelFillsLevelsInOrderRow.holds Trym.pinned (OpenSpec.ofChange fnSeedLevelFillsLevelsInOrderSpec)

/-- ITS FALSE NEIGHBOUR: 'it returns false'. Refute it at one input. -/
def fnSeedLevelFillsLevelsInOrderWrong : ChangeSpec := { name := "fnSeedLevelFillsLevelsInOrder", fn := fun _ => fun
  | [d1, d2] => { results := [.lit (.bool false)], args := [d1, d2] }
  | _ => none }
def FnSeedLevelFillsLevelsInOrderWrongFalsely : Prop := fnSeedLevelFillsLevelsInOrderRow.holds Trym.pinned (OpenSpec.ofChange fnSeedLevelFillsLevelsInOrderWrong)

/-- 'zzlaws_internal_store_b1.FnSeedLevelOffsetIsSumOfLevels': WHATEVER THE INPUT: true; the input reads as it did. -/
def fnSeedLevelOffsetIsSumOfLevelsSpec : ChangeSpec := { name := "fnSeedLevelOffsetIsSumOfLevels", fn := fun _ => fun
  | [d] => { results := [.lit (.bool true)], args := [d] }
  | _ => none }
def fnSeedLevelOffsetIsSumOfLevelsRow : OpenClaim := { program := "qxb6604649amods", sum := "ab3d816d2903148ee1f66471fd8e1d4e29595b5974ddf1fd1eb8fec0ed798847", func := "example.com/veridice/veridice/zzlaws_internal_store_b1.FnSeedLevelOffsetIsSumOfLevels", spec := "fnSeedLevelOffsetIsSumOfLevels", make := .lifted ["publicsums"], apart := false }
def FnSeedLevelOffsetIsSumOfLevelsSaid : Prop := fnSeedLevelOffsetIsSumOfLevelsRow.holds Trym.pinned (OpenSpec.ofChange fnSeedLevelOffsetIsSumOfLevelsSpec)

/-- ITS FALSE NEIGHBOUR: 'it returns false'. Refute it at one input. -/
def fnSeedLevelOffsetIsSumOfLevelsWrong : ChangeSpec := { name := "fnSeedLevelOffsetIsSumOfLevels", fn := fun _ => fun
  | [d] => { results := [.lit (.bool false)], args := [d] }
  | _ => none }
def FnSeedLevelOffsetIsSumOfLevelsWrongFalsely : Prop := fnSeedLevelOffsetIsSumOfLevelsRow.holds Trym.pinned (OpenSpec.ofChange fnSeedLevelOffsetIsSumOfLevelsWrong)

/-- 'zzlaws_internal_store_b1.FnSeedLevelOffsetGrowsFourfold': WHATEVER THE INPUT: true; the input reads as it did. -/
def fnSeedLevelOffsetGrowsFourfoldSpec : ChangeSpec := { name := "fnSeedLevelOffsetGrowsFourfold", fn := fun _ => fun
  | [d] => { results := [.lit (.bool true)], args := [d] }
  | _ => none }
def fnSeedLevelOffsetGrowsFourfoldRow : OpenClaim := { program := "qxb6604649amods", sum := "ab3d816d2903148ee1f66471fd8e1d4e29595b5974ddf1fd1eb8fec0ed798847", func := "example.com/veridice/veridice/zzlaws_internal_store_b1.FnSeedLevelOffsetGrowsFourfold", spec := "fnSeedLevelOffsetGrowsFourfold", make := .lifted ["publicsums"], apart := false }
def FnSeedLevelOffsetGrowsFourfoldSaid : Prop := fnSeedLevelOffsetGrowsFourfoldRow.holds Trym.pinned (OpenSpec.ofChange fnSeedLevelOffsetGrowsFourfoldSpec)

/-- ITS FALSE NEIGHBOUR: 'it returns false'. Refute it at one input. -/
def fnSeedLevelOffsetGrowsFourfoldWrong : ChangeSpec := { name := "fnSeedLevelOffsetGrowsFourfold", fn := fun _ => fun
  | [d] => { results := [.lit (.bool false)], args := [d] }
  | _ => none }
def FnSeedLevelOffsetGrowsFourfoldWrongFalsely : Prop := fnSeedLevelOffsetGrowsFourfoldRow.holds Trym.pinned (OpenSpec.ofChange fnSeedLevelOffsetGrowsFourfoldWrong)

end Rows
end Go.Proofs.Qxb6604649aMods
