/-
  DERIVED. GIVEN WITH THE SEED: THE CARDS: each row of Qxb6603532aDoorRows.lean that lists a variable, with what it lists TIED to the program's text (the seventh form; the later family's looks); each row that meets fmt, with fmt's text TOLD by the authors' own Lean function (tested against real Go, not proved from fmt's source: count such statements apart). THE CARD IS WHAT COUNTS. Prove the row's statement (the work); the ties are given (Qxb6603532aDoorTie.lean); close each card by the builder's one call (the guide's Derived/Test/ToyasCard.lean, 'card_holds'). Laid BY PROGRAM, IN A SANDBOX (cutbox-door.mjs). By AI agents, Wed Nov 11 2026. No macro, syntax, notation, axiom, sorry.
-/
import Derived.Test.Qxb6603532aDoorRows
import GoSem.ClaimSeven
namespace Go.Proofs.Qxb6603532aDoor
namespace Rows

/-- THE TIED CARD OF 'zzlaws_internal_vclock_b1.FnLiftedHoldsTheSameClockBySameBut'. -/
def fnLiftedHoldsTheSameClockBySameButCard : Claim7 := { stood := { row := fnLiftedHoldsTheSameClockBySameButRow, standIns := [], harness := (true, "a7e877af956568d95a2c63202737698f6757f900932792937056590c4a4f8c1f"), looks := false }, kinds := [], alts := [], laidByText := true, laidKinds := [.zeroDeep], laidTests := true, laidLooks := .later }
def FnLiftedHoldsTheSameClockBySameButCardSaid : Prop := Claim7.holds Tryd.pinned (.plain (OpenSpec.ofChange fnLiftedHoldsTheSameClockBySameButSpec)) fnLiftedHoldsTheSameClockBySameButCard
end Rows
end Go.Proofs.Qxb6603532aDoor
