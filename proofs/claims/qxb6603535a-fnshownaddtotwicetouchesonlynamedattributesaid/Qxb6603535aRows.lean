/-
  No cell of these rows narrows 'for every input' (looked for: loops, veiled, ifaces, maps, wideKeys, modest, calm, conditions, laid).
  DERIVED. THE GIVEN ROWS OF THIS SEAT. 4 by the template 'for every input the law returns true; each argument reads behind the call as it read before'; 0 by the template 'total and deterministic' (their statements: Qxb6603535aTotals.lean).
  GIVEN WITH THE SEED: the statements are not yours to turn. If you find one false, say at which input.
  Laid BY PROGRAM, IN A SANDBOX (cutbox-rows.mjs): the forced cells as the released guide's own fill.sh prints them over the translation fb7417753f51f73f… (all of the seat's roots in one cut). By AI agents, Wed Nov 11 2026. No macro, syntax, notation, axiom, sorry.
-/
import Derived.Test.Qxb6603535aChecked
import GoSem.Claim
import GoSem.ClaimJoined
import GoSem.ClaimMapViews
import Derived.JoinedTies
import Derived.KernelRfl
namespace Go.Proofs.Qxb6603535a
/- THE CELL 'sum', in the pinned program and in every row, IS THE sha256 OF THE DUMP (.gsa) THAT Qxb6603535aProg.lean LOADS. Nothing in Lean hashes anything: it is a label: what it is worth is what the hold of that sum in a sandbox is worth. -/
noncomputable def Try.pinned : Pinned := { name := "qxb6603535a", sum := "fb7417753f51f73fe99eca4cb7c1e5b4992f281ee144f79fa3f0c420529ae297", checked := Try.checked }
namespace Rows
def none {H : Type} : Left H := { results := [], args := [] }

/-- 'zzlaws_internal_scim_resource_b1.FnIsAttributeNameMatchesByteModel': WHATEVER THE INPUT: true; the input reads as it did. -/
def fnIsAttributeNameMatchesByteModelSpec : ChangeSpec := { name := "fnIsAttributeNameMatchesByteModel", fn := fun _ => fun
  | [d] => { results := [.lit (.bool true)], args := [d] }
  | _ => none }
def fnIsAttributeNameMatchesByteModelRow : OpenClaim := { program := "qxb6603535a", sum := "fb7417753f51f73fe99eca4cb7c1e5b4992f281ee144f79fa3f0c420529ae297", func := "example.com/espejo/espejo/zzlaws_internal_scim_resource_b1.FnIsAttributeNameMatchesByteModel", spec := "fnIsAttributeNameMatchesByteModel", apart := false }
def FnIsAttributeNameMatchesByteModelSaid : Prop := fnIsAttributeNameMatchesByteModelRow.holds Try.pinned (OpenSpec.ofChange fnIsAttributeNameMatchesByteModelSpec)

/-- ITS FALSE NEIGHBOUR: 'it returns false'. Refute it at one input. -/
def fnIsAttributeNameMatchesByteModelWrong : ChangeSpec := { name := "fnIsAttributeNameMatchesByteModel", fn := fun _ => fun
  | [d] => { results := [.lit (.bool false)], args := [d] }
  | _ => none }
def FnIsAttributeNameMatchesByteModelWrongFalsely : Prop := fnIsAttributeNameMatchesByteModelRow.holds Try.pinned (OpenSpec.ofChange fnIsAttributeNameMatchesByteModelWrong)

/-- 'zzlaws_internal_scim_resource_b1.FnIsAttributeNameGrowsByOneByte': WHATEVER THE INPUT: true; the input reads as it did. -/
def fnIsAttributeNameGrowsByOneByteSpec : ChangeSpec := { name := "fnIsAttributeNameGrowsByOneByte", fn := fun _ => fun
  | [d1, d2] => { results := [.lit (.bool true)], args := [d1, d2] }
  | _ => none }
def fnIsAttributeNameGrowsByOneByteRow : OpenClaim := { program := "qxb6603535a", sum := "fb7417753f51f73fe99eca4cb7c1e5b4992f281ee144f79fa3f0c420529ae297", func := "example.com/espejo/espejo/zzlaws_internal_scim_resource_b1.FnIsAttributeNameGrowsByOneByte", spec := "fnIsAttributeNameGrowsByOneByte", apart := false }
def FnIsAttributeNameGrowsByOneByteSaid : Prop := fnIsAttributeNameGrowsByOneByteRow.holds Try.pinned (OpenSpec.ofChange fnIsAttributeNameGrowsByOneByteSpec)

/-- ITS FALSE NEIGHBOUR: 'it returns false'. Refute it at one input. -/
def fnIsAttributeNameGrowsByOneByteWrong : ChangeSpec := { name := "fnIsAttributeNameGrowsByOneByte", fn := fun _ => fun
  | [d1, d2] => { results := [.lit (.bool false)], args := [d1, d2] }
  | _ => none }
def FnIsAttributeNameGrowsByOneByteWrongFalsely : Prop := fnIsAttributeNameGrowsByOneByteRow.holds Try.pinned (OpenSpec.ofChange fnIsAttributeNameGrowsByOneByteWrong)

/-- 'zzlaws_internal_scim_resource_b1.FnShownAddToGivesEachObjectValueItsShownTexts': WHATEVER THE INPUT: true; the input reads as it did. -/
def fnShownAddToGivesEachObjectValueItsShownTextsSpec : ChangeSpec := { name := "fnShownAddToGivesEachObjectValueItsShownTexts", fn := fun _ => fun
  | [d1, d2, d3, d4, d5, d6] => { results := [.lit (.bool true)], args := [d1, d2, d3, d4, d5, d6] }
  | _ => none }
def fnShownAddToGivesEachObjectValueItsShownTextsRow : OpenClaim := { program := "qxb6603535a", sum := "fb7417753f51f73fe99eca4cb7c1e5b4992f281ee144f79fa3f0c420529ae297", func := "example.com/espejo/espejo/zzlaws_internal_scim_resource_b1.FnShownAddToGivesEachObjectValueItsShownTexts", spec := "fnShownAddToGivesEachObjectValueItsShownTexts", apart := false }
def FnShownAddToGivesEachObjectValueItsShownTextsSaid : Prop := fnShownAddToGivesEachObjectValueItsShownTextsRow.holds Try.pinned (OpenSpec.ofChange fnShownAddToGivesEachObjectValueItsShownTextsSpec)

/-- ITS FALSE NEIGHBOUR: 'it returns false'. Refute it at one input. -/
def fnShownAddToGivesEachObjectValueItsShownTextsWrong : ChangeSpec := { name := "fnShownAddToGivesEachObjectValueItsShownTexts", fn := fun _ => fun
  | [d1, d2, d3, d4, d5, d6] => { results := [.lit (.bool false)], args := [d1, d2, d3, d4, d5, d6] }
  | _ => none }
def FnShownAddToGivesEachObjectValueItsShownTextsWrongFalsely : Prop := fnShownAddToGivesEachObjectValueItsShownTextsRow.holds Try.pinned (OpenSpec.ofChange fnShownAddToGivesEachObjectValueItsShownTextsWrong)

/-- 'zzlaws_internal_scim_resource_b1.FnShownAddToTwiceTouchesOnlyNamedAttribute': WHATEVER THE INPUT: true; the input reads as it did. -/
def fnShownAddToTwiceTouchesOnlyNamedAttributeSpec : ChangeSpec := { name := "fnShownAddToTwiceTouchesOnlyNamedAttribute", fn := fun _ => fun
  | [d1, d2, d3, d4, d5, d6, d7] => { results := [.lit (.bool true)], args := [d1, d2, d3, d4, d5, d6, d7] }
  | _ => none }
def fnShownAddToTwiceTouchesOnlyNamedAttributeRow : OpenClaim := { program := "qxb6603535a", sum := "fb7417753f51f73fe99eca4cb7c1e5b4992f281ee144f79fa3f0c420529ae297", func := "example.com/espejo/espejo/zzlaws_internal_scim_resource_b1.FnShownAddToTwiceTouchesOnlyNamedAttribute", spec := "fnShownAddToTwiceTouchesOnlyNamedAttribute", apart := false }
def FnShownAddToTwiceTouchesOnlyNamedAttributeSaid : Prop := fnShownAddToTwiceTouchesOnlyNamedAttributeRow.holds Try.pinned (OpenSpec.ofChange fnShownAddToTwiceTouchesOnlyNamedAttributeSpec)

/-- ITS FALSE NEIGHBOUR: 'it returns false'. Refute it at one input. -/
def fnShownAddToTwiceTouchesOnlyNamedAttributeWrong : ChangeSpec := { name := "fnShownAddToTwiceTouchesOnlyNamedAttribute", fn := fun _ => fun
  | [d1, d2, d3, d4, d5, d6, d7] => { results := [.lit (.bool false)], args := [d1, d2, d3, d4, d5, d6, d7] }
  | _ => none }
def FnShownAddToTwiceTouchesOnlyNamedAttributeWrongFalsely : Prop := fnShownAddToTwiceTouchesOnlyNamedAttributeRow.holds Try.pinned (OpenSpec.ofChange fnShownAddToTwiceTouchesOnlyNamedAttributeWrong)

end Rows
end Go.Proofs.Qxb6603535a
