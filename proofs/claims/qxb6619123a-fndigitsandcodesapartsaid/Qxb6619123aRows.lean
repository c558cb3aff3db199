/-
  No cell of these rows narrows 'for every input' (looked for: loops, veiled, ifaces, maps, wideKeys, modest, calm, conditions, laid).
  DERIVED. THE GIVEN ROWS OF THIS SEAT. 3 by the template 'for every input the law returns true; each argument reads behind the call as it read before'; 0 by the template 'total and deterministic' (their statements: Qxb6619123aTotals.lean).
  GIVEN WITH THE SEED: the statements are not yours to turn. If you find one false, say at which input.
  Laid BY PROGRAM, IN A SANDBOX (cutbox-rows.mjs): the forced cells as the released guide's own fill.sh prints them over the translation b832300da1215239… (all of the seat's roots in one cut). By AI agents, Wed Nov 11 2026. No macro, syntax, notation, axiom, sorry.
-/
import Derived.Test.Qxb6619123aChecked
import GoSem.Claim
import GoSem.ClaimJoined
import GoSem.ClaimMapViews
import Derived.JoinedTies
import Derived.KernelRfl
namespace Go.Proofs.Qxb6619123a
/- THE CELL 'sum', in the pinned program and in every row, IS THE sha256 OF THE DUMP (.gsa) THAT Qxb6619123aProg.lean LOADS. Nothing in Lean hashes anything: it is a label: what it is worth is what the hold of that sum in a sandbox is worth. -/
noncomputable def Try.pinned : Pinned := { name := "qxb6619123a", sum := "b832300da12152391e4de1aff9e7c01b9159ab21f993cf8c1811fed3d8d3e30d", checked := Try.checked }
namespace Rows
def none {H : Type} : Left H := { results := [], args := [] }

/-- 'zzlaws_currency_b1.FnIsDigitsCutAndNumeral': WHATEVER THE INPUT: true; the input reads as it did. -/
def fnIsDigitsCutAndNumeralSpec : ChangeSpec := { name := "fnIsDigitsCutAndNumeral", fn := fun _ => fun
  | [d1, d2, d3] => { results := [.lit (.bool true)], args := [d1, d2, d3] }
  | _ => none }
def fnIsDigitsCutAndNumeralRow : OpenClaim := { program := "qxb6619123a", sum := "b832300da12152391e4de1aff9e7c01b9159ab21f993cf8c1811fed3d8d3e30d", func := "example.com/tallyward/tallyward/zzlaws_currency_b1.FnIsDigitsCutAndNumeral", spec := "fnIsDigitsCutAndNumeral", apart := false }
def FnIsDigitsCutAndNumeralSaid : Prop := fnIsDigitsCutAndNumeralRow.holds Try.pinned (OpenSpec.ofChange fnIsDigitsCutAndNumeralSpec)

/-- ITS FALSE NEIGHBOUR: 'it returns false'. Refute it at one input. -/
def fnIsDigitsCutAndNumeralWrong : ChangeSpec := { name := "fnIsDigitsCutAndNumeral", fn := fun _ => fun
  | [d1, d2, d3] => { results := [.lit (.bool false)], args := [d1, d2, d3] }
  | _ => none }
def FnIsDigitsCutAndNumeralWrongFalsely : Prop := fnIsDigitsCutAndNumeralRow.holds Try.pinned (OpenSpec.ofChange fnIsDigitsCutAndNumeralWrong)

/-- 'zzlaws_currency_b1.FnIsAlphabeticCodeIsBase26Image': WHATEVER THE INPUT: true; the input reads as it did. -/
def fnIsAlphabeticCodeIsBase26ImageSpec : ChangeSpec := { name := "fnIsAlphabeticCodeIsBase26Image", fn := fun _ => fun
  | [d1, d2] => { results := [.lit (.bool true)], args := [d1, d2] }
  | _ => none }
def fnIsAlphabeticCodeIsBase26ImageRow : OpenClaim := { program := "qxb6619123a", sum := "b832300da12152391e4de1aff9e7c01b9159ab21f993cf8c1811fed3d8d3e30d", func := "example.com/tallyward/tallyward/zzlaws_currency_b1.FnIsAlphabeticCodeIsBase26Image", spec := "fnIsAlphabeticCodeIsBase26Image", apart := false }
def FnIsAlphabeticCodeIsBase26ImageSaid : Prop := fnIsAlphabeticCodeIsBase26ImageRow.holds Try.pinned (OpenSpec.ofChange fnIsAlphabeticCodeIsBase26ImageSpec)

/-- ITS FALSE NEIGHBOUR: 'it returns false'. Refute it at one input. -/
def fnIsAlphabeticCodeIsBase26ImageWrong : ChangeSpec := { name := "fnIsAlphabeticCodeIsBase26Image", fn := fun _ => fun
  | [d1, d2] => { results := [.lit (.bool false)], args := [d1, d2] }
  | _ => none }
def FnIsAlphabeticCodeIsBase26ImageWrongFalsely : Prop := fnIsAlphabeticCodeIsBase26ImageRow.holds Try.pinned (OpenSpec.ofChange fnIsAlphabeticCodeIsBase26ImageWrong)

/-- 'zzlaws_currency_b1.FnDigitsAndCodesApart': WHATEVER THE INPUT: true; the input reads as it did. -/
def fnDigitsAndCodesApartSpec : ChangeSpec := { name := "fnDigitsAndCodesApart", fn := fun _ => fun
  | [d1, d2, d3] => { results := [.lit (.bool true)], args := [d1, d2, d3] }
  | _ => none }
def fnDigitsAndCodesApartRow : OpenClaim := { program := "qxb6619123a", sum := "b832300da12152391e4de1aff9e7c01b9159ab21f993cf8c1811fed3d8d3e30d", func := "example.com/tallyward/tallyward/zzlaws_currency_b1.FnDigitsAndCodesApart", spec := "fnDigitsAndCodesApart", apart := false }
def FnDigitsAndCodesApartSaid : Prop := fnDigitsAndCodesApartRow.holds Try.pinned (OpenSpec.ofChange fnDigitsAndCodesApartSpec)

/-- ITS FALSE NEIGHBOUR: 'it returns false'. Refute it at one input. -/
def fnDigitsAndCodesApartWrong : ChangeSpec := { name := "fnDigitsAndCodesApart", fn := fun _ => fun
  | [d1, d2, d3] => { results := [.lit (.bool false)], args := [d1, d2, d3] }
  | _ => none }
def FnDigitsAndCodesApartWrongFalsely : Prop := fnDigitsAndCodesApartRow.holds Try.pinned (OpenSpec.ofChange fnDigitsAndCodesApartWrong)

end Rows
end Go.Proofs.Qxb6619123a
