/-
  NARROWER THAN 'FOR EVERY INPUT', by the rows' own cells (each row's printed sentence says how): FnLiftedKeepsEveryTimeAndAddsALevel: loops.
  DERIVED. THE GIVEN ROWS OF THIS SEAT. 3 by the template 'for every input the law returns true; each argument reads behind the call as it read before'; 0 by the template 'total and deterministic' (their statements: Qxb6603532aTotals.lean).
  GIVEN WITH THE SEED: the statements are not yours to turn. If you find one false, say at which input.
  Laid BY PROGRAM, IN A SANDBOX (cutbox-rows.mjs): the forced cells as the released guide's own fill.sh prints them over the translation 78a81a79b4f7851d… (all of the seat's roots in one cut). By AI agents, Wed Nov 11 2026. No macro, syntax, notation, axiom, sorry.
-/
import Derived.Test.Qxb6603532aChecked
import GoSem.Claim
import GoSem.ClaimJoined
import GoSem.ClaimMapViews
import Derived.JoinedTies
import Derived.KernelRfl
namespace Go.Proofs.Qxb6603532a
/- THE CELL 'sum', in the pinned program and in every row, IS THE sha256 OF THE DUMP (.gsa) THAT Qxb6603532aProg.lean LOADS. Nothing in Lean hashes anything: it is a label: what it is worth is what the hold of that sum in a sandbox is worth. -/
noncomputable def Try.pinned : Pinned := { name := "qxb6603532a", sum := "78a81a79b4f7851d48fac638c10d0fb6f9cab772bb8e6c7c4ba8231f69625082", checked := Try.checked }
namespace Rows
def none {H : Type} : Left H := { results := [], args := [] }

/-- 'zzlaws_internal_vclock_b1.FnDigitIsBaseFourDigit': WHATEVER THE INPUT: true; the input reads as it did. -/
def fnDigitIsBaseFourDigitSpec : ChangeSpec := { name := "fnDigitIsBaseFourDigit", fn := fun _ => fun
  | [d1, d2] => { results := [.lit (.bool true)], args := [d1, d2] }
  | _ => none }
def fnDigitIsBaseFourDigitRow : OpenClaim := { program := "qxb6603532a", sum := "78a81a79b4f7851d48fac638c10d0fb6f9cab772bb8e6c7c4ba8231f69625082", func := "example.com/beforehand/beforehand/zzlaws_internal_vclock_b1.FnDigitIsBaseFourDigit", spec := "fnDigitIsBaseFourDigit", apart := false }
def FnDigitIsBaseFourDigitSaid : Prop := fnDigitIsBaseFourDigitRow.holds Try.pinned (OpenSpec.ofChange fnDigitIsBaseFourDigitSpec)

/-- ITS FALSE NEIGHBOUR: 'it returns false'. Refute it at one input. -/
def fnDigitIsBaseFourDigitWrong : ChangeSpec := { name := "fnDigitIsBaseFourDigit", fn := fun _ => fun
  | [d1, d2] => { results := [.lit (.bool false)], args := [d1, d2] }
  | _ => none }
def FnDigitIsBaseFourDigitWrongFalsely : Prop := fnDigitIsBaseFourDigitRow.holds Try.pinned (OpenSpec.ofChange fnDigitIsBaseFourDigitWrong)

/-- 'zzlaws_internal_vclock_b1.FnDigitRebuildsId': WHATEVER THE INPUT: true; the input reads as it did. -/
def fnDigitRebuildsIdSpec : ChangeSpec := { name := "fnDigitRebuildsId", fn := fun _ => fun
  | [d1, d2] => { results := [.lit (.bool true)], args := [d1, d2] }
  | _ => none }
def fnDigitRebuildsIdRow : OpenClaim := { program := "qxb6603532a", sum := "78a81a79b4f7851d48fac638c10d0fb6f9cab772bb8e6c7c4ba8231f69625082", func := "example.com/beforehand/beforehand/zzlaws_internal_vclock_b1.FnDigitRebuildsId", spec := "fnDigitRebuildsId", apart := false }
def FnDigitRebuildsIdSaid : Prop := fnDigitRebuildsIdRow.holds Try.pinned (OpenSpec.ofChange fnDigitRebuildsIdSpec)

/-- ITS FALSE NEIGHBOUR: 'it returns false'. Refute it at one input. -/
def fnDigitRebuildsIdWrong : ChangeSpec := { name := "fnDigitRebuildsId", fn := fun _ => fun
  | [d1, d2] => { results := [.lit (.bool false)], args := [d1, d2] }
  | _ => none }
def FnDigitRebuildsIdWrongFalsely : Prop := fnDigitRebuildsIdRow.holds Try.pinned (OpenSpec.ofChange fnDigitRebuildsIdWrong)

/-- 'zzlaws_internal_vclock_b1.FnLiftedKeepsEveryTimeAndAddsALevel': WHATEVER THE INPUT: true; the input reads as it did. -/
def fnLiftedKeepsEveryTimeAndAddsALevelSpec : ChangeSpec := { name := "fnLiftedKeepsEveryTimeAndAddsALevel", fn := fun _ => fun
  | [d1, d2] => { results := [.lit (.bool true)], args := [d1, d2] }
  | _ => none }
def fnLiftedKeepsEveryTimeAndAddsALevelRow : OpenClaim := { program := "qxb6603532a", sum := "78a81a79b4f7851d48fac638c10d0fb6f9cab772bb8e6c7c4ba8231f69625082", func := "example.com/beforehand/beforehand/zzlaws_internal_vclock_b1.FnLiftedKeepsEveryTimeAndAddsALevel", spec := "fnLiftedKeepsEveryTimeAndAddsALevel", recurses := true, loops := true, apart := false }
def FnLiftedKeepsEveryTimeAndAddsALevelSaid : Prop := fnLiftedKeepsEveryTimeAndAddsALevelRow.holds Try.pinned (OpenSpec.ofChange fnLiftedKeepsEveryTimeAndAddsALevelSpec)

/-- ITS FALSE NEIGHBOUR: 'it returns false'. Refute it at one input. -/
def fnLiftedKeepsEveryTimeAndAddsALevelWrong : ChangeSpec := { name := "fnLiftedKeepsEveryTimeAndAddsALevel", fn := fun _ => fun
  | [d1, d2] => { results := [.lit (.bool false)], args := [d1, d2] }
  | _ => none }
def FnLiftedKeepsEveryTimeAndAddsALevelWrongFalsely : Prop := fnLiftedKeepsEveryTimeAndAddsALevelRow.holds Try.pinned (OpenSpec.ofChange fnLiftedKeepsEveryTimeAndAddsALevelWrong)

end Rows
end Go.Proofs.Qxb6603532a
