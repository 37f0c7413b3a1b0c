/-
  NARROWER THAN 'FOR EVERY INPUT', by the rows' own cells (each row's printed sentence says how): FnLiftedHoldsTheSameClockBySameBut: loops, laid.
  DERIVED. THE GIVEN ROWS OF THIS SEAT. 1 by the template 'for every input the law returns true; each argument reads behind the call as it read before'; 0 by the template 'total and deterministic' (their statements: Qxb6603532aDoorTotals.lean).
  GIVEN WITH THE SEED: the statements are not yours to turn. If you find one false, say at which input.
  Laid BY PROGRAM, IN A SANDBOX (cutbox-rows.mjs): the forced cells as the released guide's own fill.sh prints them over the translation be03797c9ad9c333… (all of the seat's roots in one cut). By AI agents, Wed Nov 11 2026. No macro, syntax, notation, axiom, sorry.
-/
import Derived.Test.Qxb6603532aDoorChecked
import GoSem.Claim
import GoSem.ClaimJoined
import GoSem.ClaimMapViews
import Derived.JoinedTies
import Derived.KernelRfl
namespace Go.Proofs.Qxb6603532aDoor
/- THE CELL 'sum', in the pinned program and in every row, IS THE sha256 OF THE DUMP (.gsa) THAT Qxb6603532aDoorProg.lean LOADS. Nothing in Lean hashes anything: it is a label: what it is worth is what the hold of that sum in a sandbox is worth. -/
noncomputable def Tryd.pinned : Pinned := { name := "qxb6603532adoor", sum := "be03797c9ad9c333d9f717fb36c955f09c167d24878cd16cce1f994b135b949c", checked := Tryd.checked }
namespace Rows
def none {H : Type} : Left H := { results := [], args := [] }

/- WHAT THE LISTED PACKAGE-LEVEL VARIABLES READ AS WHEN THE CALL BEGINS. Each datum BY PROGRAM (the guide's laid-datum.mjs) off the statement by which the dump's own 'gosem.cut.vars' lays the variable. In a bare row this is a premise. The card (Qxb6603532aDoorCards.lean) ties it to the program's text. -/
def laid_example_com_beforehand_beforehand_internal_vclock_zero {H : Type} : DataW H := .agg [.agg [.nil, .nil, .nil, .nil], .agg [.lit (.int .u64 0), .lit (.int .u64 0), .lit (.int .u64 0), .lit (.int .u64 0)]]

/-- 'zzlaws_internal_vclock_b1.FnLiftedHoldsTheSameClockBySameBut': WHATEVER THE INPUT: true; the input reads as it did. -/
def fnLiftedHoldsTheSameClockBySameButSpec : ChangeSpec := { name := "fnLiftedHoldsTheSameClockBySameBut", vars := ["example.com/beforehand/beforehand/internal/vclock.zero"], fn := fun _ => fun
  | [d1, d2, g1] => { results := [.lit (.bool true)], args := [d1, d2], vars := [g1] }
  | _ => none }
def fnLiftedHoldsTheSameClockBySameButRow : OpenClaim := { program := "qxb6603532adoor", sum := "be03797c9ad9c333d9f717fb36c955f09c167d24878cd16cce1f994b135b949c", func := "example.com/beforehand/beforehand/zzlaws_internal_vclock_b1.FnLiftedHoldsTheSameClockBySameBut", spec := "fnLiftedHoldsTheSameClockBySameBut", unfollowed := true, recurses := true, named := ["example.com/beforehand/beforehand/internal/vclock.zero"], loops := true, apart := false, laid := [("example.com/beforehand/beforehand/internal/vclock.zero", laid_example_com_beforehand_beforehand_internal_vclock_zero)] }
def FnLiftedHoldsTheSameClockBySameButSaid : Prop := fnLiftedHoldsTheSameClockBySameButRow.holds Tryd.pinned (OpenSpec.ofChange fnLiftedHoldsTheSameClockBySameButSpec)

/-- ITS FALSE NEIGHBOUR: 'it returns false'. Refute it at one input. -/
def fnLiftedHoldsTheSameClockBySameButWrong : ChangeSpec := { name := "fnLiftedHoldsTheSameClockBySameBut", vars := ["example.com/beforehand/beforehand/internal/vclock.zero"], fn := fun _ => fun
  | [d1, d2, g1] => { results := [.lit (.bool false)], args := [d1, d2], vars := [g1] }
  | _ => none }
def FnLiftedHoldsTheSameClockBySameButWrongFalsely : Prop := fnLiftedHoldsTheSameClockBySameButRow.holds Tryd.pinned (OpenSpec.ofChange fnLiftedHoldsTheSameClockBySameButWrong)

end Rows
end Go.Proofs.Qxb6603532aDoor
