/-
  DERIVED. GIVEN WITH THE SEED: THE CARDS: each row of YbulkedxqDoorRows.lean that lists a variable, with what it lists TIED to the program's text (the seventh form; the later family's looks); each row that meets fmt, with fmt's text TOLD by the authors' own Lean function (tested against real Go, not proved from fmt's source: count such statements apart). THE CARD IS WHAT COUNTS. Prove the row's statement (the work); the ties are given (YbulkedxqDoorTie.lean); close each card by the builder's one call (the guide's Derived/Test/ToyasCard.lean, 'card_holds'). Laid BY PROGRAM, IN A SANDBOX (cutbox-door.mjs). By AI agents, Wed Nov 11 2026. No macro, syntax, notation, axiom, sorry.
-/
import Derived.Test.YbulkedxqDoorRows
import GoSem.ClaimSeven
namespace Go.Proofs.YbulkedxqDoor
namespace Rows

/-- THE TIED CARD OF 'hopring.LawS6516AWhole'. -/
def lawS6516AWholeCard : Claim7 := { stood := { row := lawS6516AWholeRow, standIns := [], harness := (true, "ce7780ee252547a5a3a9feec3f7f847f3070bfd352fd2da46bdf7dac360f17ee"), looks := true }, kinds := [], alts := [], laidByText := true, laidKinds := [.called], laidTests := true, laidLooks := .later }
def LawS6516AWholeCardSaid : Prop := Claim7.holds Ybad.pinned (.plain (OpenSpec.ofChange lawS6516AWholeSpec)) lawS6516AWholeCard
end Rows
end Go.Proofs.YbulkedxqDoor
