/-
  DERIVED. GIVEN WITH THE SEED: THE CARDS: each row of YbulkedxcFmtRows.lean that lists a variable, with what it lists TIED to the program's text (the seventh form; the later family's looks); each row that meets fmt, with fmt's text TOLD by the authors' own Lean function (tested against real Go, not proved from fmt's source: count such statements apart). THE CARD IS WHAT COUNTS. Prove the row's statement (the work); the ties are given (YbulkedxcFmtTie.lean); close each card by the builder's one call (the guide's Derived/Test/ToyasCard.lean, 'card_holds'). Laid BY PROGRAM, IN A SANDBOX (cutbox-door.mjs). By AI agents, Wed Nov 11 2026. No macro, syntax, notation, axiom, sorry.
-/
import Derived.Test.YbulkedxcFmtRows
import GoSem.ClaimSeven
namespace Go.Proofs.YbulkedxcFmt
namespace Rows

/-- THE TOLD CARD OF 'serialist.LawS6515CWhole'. -/
def lawS6515CWholeCard : Claim7 := { stood := { row := lawS6515CWholeRow, standIns := [], harness := (true, "80787e059160f96778aef0661685285278884632e5928b3de0581afb8e47b712"), looks := false }, told := true, goes := false }
def LawS6515CWholeToldSaid : Prop := Claim7.holds Ybaf.pinned (.plain (OpenSpec.ofChange lawS6515CWholeSpec)) lawS6515CWholeCard
/-- ITS FALSE NEIGHBOUR. Refute it at one input. -/
def LawS6515CWholeToldWrongFalsely : Prop := Claim7.holds Ybaf.pinned (.plain (OpenSpec.ofChange lawS6515CWholeWrong)) lawS6515CWholeCard
end Rows
end Go.Proofs.YbulkedxcFmt
