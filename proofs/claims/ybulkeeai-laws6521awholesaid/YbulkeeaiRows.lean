/-
  No cell of these rows narrows 'for every input' (looked for: loops, veiled, ifaces, maps, wideKeys, modest, calm, conditions, laid).
  DERIVED. THE GIVEN ROWS OF THIS SEAT. 1 by the template 'for every input the law returns true; each argument reads behind the call as it read before'; 0 by the template 'total and deterministic' (their statements: YbulkeeaiTotals.lean).
  GIVEN WITH THE SEED: the statements are not yours to turn. If you find one false, say at which input.
  Laid BY PROGRAM, IN A SANDBOX (cutbox-rows.mjs): the forced cells as the released guide's own fill.sh prints them over the translation 4977592cbf47c680… (all of the seat's roots in one cut). By AI agents, Wed Nov 11 2026. No macro, syntax, notation, axiom, sorry.
-/
import Derived.Test.YbulkeeaiChecked
import GoSem.Claim
import GoSem.ClaimJoined
import GoSem.ClaimMapViews
import Derived.JoinedTies
import Derived.KernelRfl
namespace Go.Proofs.Ybulkeeai
/- THE CELL 'sum', in the pinned program and in every row, IS THE sha256 OF THE DUMP (.gsa) THAT YbulkeeaiProg.lean LOADS. Nothing in Lean hashes anything: it is a label: what it is worth is what the hold of that sum in a sandbox is worth. -/
noncomputable def Yba.pinned : Pinned := { name := "ybulkeeai", sum := "4977592cbf47c680563a6846d153d42c4693765d8a1e7e0aad5e39ef9e228fb5", checked := Yba.checked }
namespace Rows
def none {H : Type} : Left H := { results := [], args := [] }

/-- 'thinwaist.LawS6521AWhole': WHATEVER THE INPUT: true; the input reads as it did. -/
def lawS6521AWholeSpec : ChangeSpec := { name := "lawS6521AWhole", fn := fun _ => fun
  | [d1, d2, d3] => { results := [.lit (.bool true)], args := [d1, d2, d3] }
  | _ => none }
def lawS6521AWholeRow : OpenClaim := { program := "ybulkeeai", sum := "4977592cbf47c680563a6846d153d42c4693765d8a1e7e0aad5e39ef9e228fb5", func := "example.com/thinwaist/thinwaist.LawS6521AWhole", spec := "lawS6521AWhole", apart := false }
def LawS6521AWholeSaid : Prop := lawS6521AWholeRow.holds Yba.pinned (OpenSpec.ofChange lawS6521AWholeSpec)

/-- ITS FALSE NEIGHBOUR: 'it returns false'. Refute it at one input. -/
def lawS6521AWholeWrong : ChangeSpec := { name := "lawS6521AWhole", fn := fun _ => fun
  | [d1, d2, d3] => { results := [.lit (.bool false)], args := [d1, d2, d3] }
  | _ => none }
def LawS6521AWholeWrongFalsely : Prop := lawS6521AWholeRow.holds Yba.pinned (OpenSpec.ofChange lawS6521AWholeWrong)

end Rows
end Go.Proofs.Ybulkeeai
