/-
  No cell of these rows narrows 'for every input' (looked for: loops, veiled, ifaces, maps, wideKeys, modest, calm, conditions, laid).
  DERIVED. THE GIVEN ROWS OF THIS SEAT. 2 by the template 'for every input the law returns true; each argument reads behind the call as it read before'; 0 by the template 'total and deterministic' (their statements: Qxb6612601aModsTotals.lean).
  GIVEN WITH THE SEED: the statements are not yours to turn. If you find one false, say at which input.
  Laid BY PROGRAM, IN A SANDBOX (cutbox-rows.mjs): the forced cells as the released guide's own fill.sh prints them over the translation f89d0d8b8cbf28ef… (all of the seat's roots in one cut). By AI agents, Wed Nov 11 2026. No macro, syntax, notation, axiom, sorry.
-/
import Derived.Test.Qxb6612601aModsChecked
import GoSem.Claim
import GoSem.ClaimJoined
import GoSem.ClaimMapViews
import Derived.JoinedTies
import Derived.KernelRfl
namespace Go.Proofs.Qxb6612601aMods
/- THE CELL 'sum', in the pinned program and in every row, IS THE sha256 OF THE DUMP (.gsa) THAT Qxb6612601aModsProg.lean LOADS. Nothing in Lean hashes anything: it is a label: what it is worth is what the hold of that sum in a sandbox is worth. -/
noncomputable def Trym.pinned : Pinned := { name := "qxb6612601amods", sum := "f89d0d8b8cbf28efcba17ddca6c2df61381a916812352bfa5b101cb269e4e44a", checked := Trym.checked }
namespace Rows
def none {H : Type} : Left H := { results := [], args := [] }

/-- 'zzlaws_keys_b1.FnIsUpperOrDigitIsBase36Numeral': WHATEVER THE INPUT: true; the input reads as it did. -/
def fnIsUpperOrDigitIsBase36NumeralSpec : ChangeSpec := { name := "fnIsUpperOrDigitIsBase36Numeral", fn := fun _ => fun
  | [d] => { results := [.lit (.bool true)], args := [d] }
  | _ => none }
def fnIsUpperOrDigitIsBase36NumeralRow : OpenClaim := { program := "qxb6612601amods", sum := "f89d0d8b8cbf28efcba17ddca6c2df61381a916812352bfa5b101cb269e4e44a", func := "example.com/kunci/kunci/zzlaws_keys_b1.FnIsUpperOrDigitIsBase36Numeral", spec := "fnIsUpperOrDigitIsBase36Numeral", make := .lifted ["publicsums"], apart := false }
def FnIsUpperOrDigitIsBase36NumeralSaid : Prop := fnIsUpperOrDigitIsBase36NumeralRow.holds Trym.pinned (OpenSpec.ofChange fnIsUpperOrDigitIsBase36NumeralSpec)

/-- ITS FALSE NEIGHBOUR: 'it returns false'. Refute it at one input. -/
def fnIsUpperOrDigitIsBase36NumeralWrong : ChangeSpec := { name := "fnIsUpperOrDigitIsBase36Numeral", fn := fun _ => fun
  | [d] => { results := [.lit (.bool false)], args := [d] }
  | _ => none }
def FnIsUpperOrDigitIsBase36NumeralWrongFalsely : Prop := fnIsUpperOrDigitIsBase36NumeralRow.holds Trym.pinned (OpenSpec.ofChange fnIsUpperOrDigitIsBase36NumeralWrong)

/-- 'zzlaws_keys_b1.FnIsUpperOrDigitRankAndCaseFlip': WHATEVER THE INPUT: true; the input reads as it did. -/
def fnIsUpperOrDigitRankAndCaseFlipSpec : ChangeSpec := { name := "fnIsUpperOrDigitRankAndCaseFlip", fn := fun _ => fun
  | [d] => { results := [.lit (.bool true)], args := [d] }
  | _ => none }
def fnIsUpperOrDigitRankAndCaseFlipRow : OpenClaim := { program := "qxb6612601amods", sum := "f89d0d8b8cbf28efcba17ddca6c2df61381a916812352bfa5b101cb269e4e44a", func := "example.com/kunci/kunci/zzlaws_keys_b1.FnIsUpperOrDigitRankAndCaseFlip", spec := "fnIsUpperOrDigitRankAndCaseFlip", make := .lifted ["publicsums"], apart := false }
def FnIsUpperOrDigitRankAndCaseFlipSaid : Prop := fnIsUpperOrDigitRankAndCaseFlipRow.holds Trym.pinned (OpenSpec.ofChange fnIsUpperOrDigitRankAndCaseFlipSpec)

/-- ITS FALSE NEIGHBOUR: 'it returns false'. Refute it at one input. -/
def fnIsUpperOrDigitRankAndCaseFlipWrong : ChangeSpec := { name := "fnIsUpperOrDigitRankAndCaseFlip", fn := fun _ => fun
  | [d] => { results := [.lit (.bool false)], args := [d] }
  | _ => none }
def FnIsUpperOrDigitRankAndCaseFlipWrongFalsely : Prop := fnIsUpperOrDigitRankAndCaseFlipRow.holds Trym.pinned (OpenSpec.ofChange fnIsUpperOrDigitRankAndCaseFlipWrong)

end Rows
end Go.Proofs.Qxb6612601aMods
