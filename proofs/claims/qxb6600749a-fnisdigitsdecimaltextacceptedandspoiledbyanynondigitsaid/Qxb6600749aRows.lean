/-
  No cell of these rows narrows 'for every input' (looked for: loops, veiled, ifaces, maps, wideKeys, modest, calm, conditions, laid).
  DERIVED. THE GIVEN ROWS OF THIS SEAT. 3 by the template 'for every input the law returns true; each argument reads behind the call as it read before'; 0 by the template 'total and deterministic' (their statements: Qxb6600749aTotals.lean).
  GIVEN WITH THE SEED: the statements are not yours to turn. If you find one false, say at which input.
  Laid BY PROGRAM, IN A SANDBOX (cutbox-rows.mjs): the forced cells as the released guide's own fill.sh prints them over the translation ba6273c8c5111f5c… (all of the seat's roots in one cut). By AI agents, Wed Nov 11 2026. No macro, syntax, notation, axiom, sorry.
-/
import Derived.Test.Qxb6600749aChecked
import GoSem.Claim
import GoSem.ClaimJoined
import GoSem.ClaimMapViews
import Derived.JoinedTies
import Derived.KernelRfl
namespace Go.Proofs.Qxb6600749a
/- THE CELL 'sum', in the pinned program and in every row, IS THE sha256 OF THE DUMP (.gsa) THAT Qxb6600749aProg.lean LOADS. Nothing in Lean hashes anything: it is a label: what it is worth is what the hold of that sum in a sandbox is worth. -/
noncomputable def Try.pinned : Pinned := { name := "qxb6600749a", sum := "ba6273c8c5111f5ce9c1357154759ffa1bae1dc54a8e0a2d9736bbf5014807a3", checked := Try.checked }
namespace Rows
def none {H : Type} : Left H := { results := [], args := [] }

/-- 'zzlaws_internal_cron_b1.FnIsDigitsExactByteModel': WHATEVER THE INPUT: true; the input reads as it did. -/
def fnIsDigitsExactByteModelSpec : ChangeSpec := { name := "fnIsDigitsExactByteModel", fn := fun _ => fun
  | [d] => { results := [.lit (.bool true)], args := [d] }
  | _ => none }
def fnIsDigitsExactByteModelRow : OpenClaim := { program := "qxb6600749a", sum := "ba6273c8c5111f5ce9c1357154759ffa1bae1dc54a8e0a2d9736bbf5014807a3", func := "example.com/belltower/belltower/zzlaws_internal_cron_b1.FnIsDigitsExactByteModel", spec := "fnIsDigitsExactByteModel", apart := false }
def FnIsDigitsExactByteModelSaid : Prop := fnIsDigitsExactByteModelRow.holds Try.pinned (OpenSpec.ofChange fnIsDigitsExactByteModelSpec)

/-- ITS FALSE NEIGHBOUR: 'it returns false'. Refute it at one input. -/
def fnIsDigitsExactByteModelWrong : ChangeSpec := { name := "fnIsDigitsExactByteModel", fn := fun _ => fun
  | [d] => { results := [.lit (.bool false)], args := [d] }
  | _ => none }
def FnIsDigitsExactByteModelWrongFalsely : Prop := fnIsDigitsExactByteModelRow.holds Try.pinned (OpenSpec.ofChange fnIsDigitsExactByteModelWrong)

/-- 'zzlaws_internal_cron_b1.FnIsDigitsConcat': WHATEVER THE INPUT: true; the input reads as it did. -/
def fnIsDigitsConcatSpec : ChangeSpec := { name := "fnIsDigitsConcat", fn := fun _ => fun
  | [d1, d2] => { results := [.lit (.bool true)], args := [d1, d2] }
  | _ => none }
def fnIsDigitsConcatRow : OpenClaim := { program := "qxb6600749a", sum := "ba6273c8c5111f5ce9c1357154759ffa1bae1dc54a8e0a2d9736bbf5014807a3", func := "example.com/belltower/belltower/zzlaws_internal_cron_b1.FnIsDigitsConcat", spec := "fnIsDigitsConcat", apart := false }
def FnIsDigitsConcatSaid : Prop := fnIsDigitsConcatRow.holds Try.pinned (OpenSpec.ofChange fnIsDigitsConcatSpec)

/-- ITS FALSE NEIGHBOUR: 'it returns false'. Refute it at one input. -/
def fnIsDigitsConcatWrong : ChangeSpec := { name := "fnIsDigitsConcat", fn := fun _ => fun
  | [d1, d2] => { results := [.lit (.bool false)], args := [d1, d2] }
  | _ => none }
def FnIsDigitsConcatWrongFalsely : Prop := fnIsDigitsConcatRow.holds Try.pinned (OpenSpec.ofChange fnIsDigitsConcatWrong)

/-- 'zzlaws_internal_cron_b1.FnIsDigitsDecimalTextAcceptedAndSpoiledByAnyNonDigit': WHATEVER THE INPUT: true; the input reads as it did. -/
def fnIsDigitsDecimalTextAcceptedAndSpoiledByAnyNonDigitSpec : ChangeSpec := { name := "fnIsDigitsDecimalTextAcceptedAndSpoiledByAnyNonDigit", fn := fun _ => fun
  | [d1, d2, d3] => { results := [.lit (.bool true)], args := [d1, d2, d3] }
  | _ => none }
def fnIsDigitsDecimalTextAcceptedAndSpoiledByAnyNonDigitRow : OpenClaim := { program := "qxb6600749a", sum := "ba6273c8c5111f5ce9c1357154759ffa1bae1dc54a8e0a2d9736bbf5014807a3", func := "example.com/belltower/belltower/zzlaws_internal_cron_b1.FnIsDigitsDecimalTextAcceptedAndSpoiledByAnyNonDigit", spec := "fnIsDigitsDecimalTextAcceptedAndSpoiledByAnyNonDigit", apart := false }
def FnIsDigitsDecimalTextAcceptedAndSpoiledByAnyNonDigitSaid : Prop := fnIsDigitsDecimalTextAcceptedAndSpoiledByAnyNonDigitRow.holds Try.pinned (OpenSpec.ofChange fnIsDigitsDecimalTextAcceptedAndSpoiledByAnyNonDigitSpec)

/-- ITS FALSE NEIGHBOUR: 'it returns false'. Refute it at one input. -/
def fnIsDigitsDecimalTextAcceptedAndSpoiledByAnyNonDigitWrong : ChangeSpec := { name := "fnIsDigitsDecimalTextAcceptedAndSpoiledByAnyNonDigit", fn := fun _ => fun
  | [d1, d2, d3] => { results := [.lit (.bool false)], args := [d1, d2, d3] }
  | _ => none }
def FnIsDigitsDecimalTextAcceptedAndSpoiledByAnyNonDigitWrongFalsely : Prop := fnIsDigitsDecimalTextAcceptedAndSpoiledByAnyNonDigitRow.holds Try.pinned (OpenSpec.ofChange fnIsDigitsDecimalTextAcceptedAndSpoiledByAnyNonDigitWrong)

end Rows
end Go.Proofs.Qxb6600749a
