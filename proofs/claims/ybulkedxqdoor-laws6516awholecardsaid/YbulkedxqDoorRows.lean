/-
  NARROWER THAN 'FOR EVERY INPUT', by the rows' own cells (each row's printed sentence says how): LawS6516AWhole: ifaces, laid.
  DERIVED. THE GIVEN ROWS OF THIS SEAT. 1 by the template 'for every input the law returns true; each argument reads behind the call as it read before'; 0 by the template 'total and deterministic' (their statements: YbulkedxqDoorTotals.lean).
  GIVEN WITH THE SEED: the statements are not yours to turn. If you find one false, say at which input.
  Laid BY PROGRAM, IN A SANDBOX (cutbox-rows.mjs): the forced cells as the released guide's own fill.sh prints them over the translation 46d87715c29cd680… (all of the seat's roots in one cut). By AI agents, Wed Nov 11 2026. No macro, syntax, notation, axiom, sorry.
-/
import Derived.Test.YbulkedxqDoorChecked
import GoSem.Claim
import GoSem.ClaimJoined
import GoSem.ClaimMapViews
import Derived.JoinedTies
import Derived.KernelRfl
namespace Go.Proofs.YbulkedxqDoor
/- THE CELL 'sum', in the pinned program and in every row, IS THE sha256 OF THE DUMP (.gsa) THAT YbulkedxqDoorProg.lean LOADS. Nothing in Lean hashes anything: it is a label: what it is worth is what the hold of that sum in a sandbox is worth. -/
noncomputable def Ybad.pinned : Pinned := { name := "ybulkedxqdoor", sum := "46d87715c29cd680eab7e861932fff435db57c4c2b6adb2f1e12ea3c2d99182e", checked := Ybad.checked }
namespace Rows
def none {H : Type} : Left H := { results := [], args := [] }

/- WHAT THE LISTED PACKAGE-LEVEL VARIABLES READ AS WHEN THE CALL BEGINS. Each datum BY PROGRAM (the guide's laid-datum.mjs) off the statement by which the dump's own 'gosem.cut.vars' lays the variable. In a bare row this is a premise. The card (YbulkedxqDoorCards.lean) ties it to the program's text. -/
def laid_example_com_hopring_hopring_errShortFrame {H : Type} : DataW H := .iface "*errors.errorString" (.ptr (.agg [.lit (.string [97, 32, 102, 114, 97, 109, 101, 32, 101, 110, 100, 115, 32, 105, 110, 32, 116, 104, 101, 32, 109, 105, 100, 100, 108, 101, 32, 111, 102, 32, 97, 32, 102, 105, 101, 108, 100])]))

/-- 'hopring.LawS6516AWhole': WHATEVER THE INPUT: true; the input reads as it did. -/
def lawS6516AWholeSpec : ChangeSpec := { name := "lawS6516AWhole", vars := ["example.com/hopring/hopring.errShortFrame"], fn := fun _ => fun
  | [d1, d2, d3, g1] => { results := [.lit (.bool true)], args := [d1, d2, d3], vars := [g1] }
  | _ => none }
def lawS6516AWholeRow : OpenClaim := { program := "ybulkedxqdoor", sum := "46d87715c29cd680eab7e861932fff435db57c4c2b6adb2f1e12ea3c2d99182e", func := "example.com/hopring/hopring.LawS6516AWhole", spec := "lawS6516AWhole", named := ["example.com/hopring/hopring.errShortFrame", "encoding/binary.BigEndian"], ifaces := true, apart := false, laid := [("example.com/hopring/hopring.errShortFrame", laid_example_com_hopring_hopring_errShortFrame)] }
def LawS6516AWholeSaid : Prop := lawS6516AWholeRow.holds Ybad.pinned (OpenSpec.ofChange lawS6516AWholeSpec)

/-- ITS FALSE NEIGHBOUR: 'it returns false'. Refute it at one input. -/
def lawS6516AWholeWrong : ChangeSpec := { name := "lawS6516AWhole", vars := ["example.com/hopring/hopring.errShortFrame"], fn := fun _ => fun
  | [d1, d2, d3, g1] => { results := [.lit (.bool false)], args := [d1, d2, d3], vars := [g1] }
  | _ => none }
def LawS6516AWholeWrongFalsely : Prop := lawS6516AWholeRow.holds Ybad.pinned (OpenSpec.ofChange lawS6516AWholeWrong)

end Rows
end Go.Proofs.YbulkedxqDoor
