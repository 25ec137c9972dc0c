/-
  No cell of these rows narrows 'for every input' (looked for: loops, veiled, ifaces, maps, wideKeys, modest, calm, conditions, laid).
  DERIVED. THE GIVEN ROWS OF THIS SEAT. 1 by the template 'for every input the law returns true; each argument reads behind the call as it read before'; 0 by the template 'total and deterministic' (their statements: YbulkedxcFmtTotals.lean).
  GIVEN WITH THE SEED: the statements are not yours to turn. If you find one false, say at which input.
  Laid BY PROGRAM, IN A SANDBOX (cutbox-rows.mjs): the forced cells as the released guide's own fill.sh prints them over the translation bb3040c726eae667… (all of the seat's roots in one cut). By AI agents, Wed Nov 11 2026. No macro, syntax, notation, axiom, sorry.
-/
import Derived.Test.YbulkedxcFmtChecked
import GoSem.Claim
import GoSem.ClaimJoined
import GoSem.ClaimMapViews
import Derived.JoinedTies
import Derived.KernelRfl
namespace Go.Proofs.YbulkedxcFmt
/- THE CELL 'sum', in the pinned program and in every row, IS THE sha256 OF THE DUMP (.gsa) THAT YbulkedxcFmtProg.lean LOADS. Nothing in Lean hashes anything: it is a label: what it is worth is what the hold of that sum in a sandbox is worth. -/
noncomputable def Ybaf.pinned : Pinned := { name := "ybulkedxcfmt", sum := "bb3040c726eae667a9450337898b0f64b53096af619f8c25942afca1f57f6fc5", checked := Ybaf.checked }
namespace Rows
def none {H : Type} : Left H := { results := [], args := [] }

/-- 'serialist.LawS6515CWhole': WHATEVER THE INPUT: true; the input reads as it did. -/
def lawS6515CWholeSpec : ChangeSpec := { name := "lawS6515CWhole", fn := fun _ => fun
  | [d1, d2] => { results := [.lit (.bool true)], args := [d1, d2] }
  | _ => none }
def lawS6515CWholeRow : OpenClaim := { program := "ybulkedxcfmt", sum := "bb3040c726eae667a9450337898b0f64b53096af619f8c25942afca1f57f6fc5", func := "example.com/serialist/serialist.LawS6515CWhole", spec := "lawS6515CWhole", stops := ["fmt.errorf"], inPlace := ["fmt.errorf", "math/big.addVV", "math/bits.Add64", "math/big.subVV", "math/bits.Sub64", "math/big.lshVU"], recurses := true, apart := false }
/-- NO THEOREM (fmt's text is open here; it may be false): for the released tool's asking of the row's closed facts alone. THE STATEMENT IS 'LawS6515CWholeToldSaid' (YbulkedxcFmtCards.lean). -/
def LawS6515CWholeFormAsk : Prop := lawS6515CWholeRow.holds Ybaf.pinned (OpenSpec.ofChange lawS6515CWholeSpec)

/-- ITS FALSE NEIGHBOUR: 'it returns false'. Refute it at one input. -/
def lawS6515CWholeWrong : ChangeSpec := { name := "lawS6515CWhole", fn := fun _ => fun
  | [d1, d2] => { results := [.lit (.bool false)], args := [d1, d2] }
  | _ => none }
def LawS6515CWholeWrongFormAsk : Prop := lawS6515CWholeRow.holds Ybaf.pinned (OpenSpec.ofChange lawS6515CWholeWrong)

end Rows
end Go.Proofs.YbulkedxcFmt
