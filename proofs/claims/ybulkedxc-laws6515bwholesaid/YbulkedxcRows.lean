/-
  No cell of these rows narrows 'for every input' (looked for: loops, veiled, ifaces, maps, wideKeys, modest, calm, conditions, laid).
  DERIVED. THE GIVEN ROWS OF THIS SEAT. 1 by the template 'for every input the law returns true; each argument reads behind the call as it read before'; 0 by the template 'total and deterministic' (their statements: YbulkedxcTotals.lean).
  GIVEN WITH THE SEED: the statements are not yours to turn. If you find one false, say at which input.
  Laid BY PROGRAM, IN A SANDBOX (cutbox-rows.mjs): the forced cells as the released guide's own fill.sh prints them over the translation c43c42366faa2a7e… (all of the seat's roots in one cut). By AI agents, Wed Nov 11 2026. No macro, syntax, notation, axiom, sorry.
-/
import Derived.Test.YbulkedxcChecked
import GoSem.Claim
import GoSem.ClaimJoined
import GoSem.ClaimMapViews
import Derived.JoinedTies
import Derived.KernelRfl
namespace Go.Proofs.Ybulkedxc
/- THE CELL 'sum', in the pinned program and in every row, IS THE sha256 OF THE DUMP (.gsa) THAT YbulkedxcProg.lean LOADS. Nothing in Lean hashes anything: it is a label: what it is worth is what the hold of that sum in a sandbox is worth. -/
noncomputable def Yba.pinned : Pinned := { name := "ybulkedxc", sum := "c43c42366faa2a7e82ae0cea102259b86e06d9795e8825a87ac265e7ec1e304c", checked := Yba.checked }
namespace Rows
def none {H : Type} : Left H := { results := [], args := [] }

/-- 'serialist.LawS6515BWhole': WHATEVER THE INPUT: true; the input reads as it did. -/
def lawS6515BWholeSpec : ChangeSpec := { name := "lawS6515BWhole", fn := fun _ => fun
  | [d1, d2, d3, d4, d5, d6, d7] => { results := [.lit (.bool true)], args := [d1, d2, d3, d4, d5, d6, d7] }
  | _ => none }
def lawS6515BWholeRow : OpenClaim := { program := "ybulkedxc", sum := "c43c42366faa2a7e82ae0cea102259b86e06d9795e8825a87ac265e7ec1e304c", func := "example.com/serialist/serialist.LawS6515BWhole", spec := "lawS6515BWhole", unfollowed := true, recurses := true, apart := false }
def LawS6515BWholeSaid : Prop := lawS6515BWholeRow.holds Yba.pinned (OpenSpec.ofChange lawS6515BWholeSpec)

/-- ITS FALSE NEIGHBOUR: 'it returns false'. Refute it at one input. -/
def lawS6515BWholeWrong : ChangeSpec := { name := "lawS6515BWhole", fn := fun _ => fun
  | [d1, d2, d3, d4, d5, d6, d7] => { results := [.lit (.bool false)], args := [d1, d2, d3, d4, d5, d6, d7] }
  | _ => none }
def LawS6515BWholeWrongFalsely : Prop := lawS6515BWholeRow.holds Yba.pinned (OpenSpec.ofChange lawS6515BWholeWrong)

end Rows
end Go.Proofs.Ybulkedxc
