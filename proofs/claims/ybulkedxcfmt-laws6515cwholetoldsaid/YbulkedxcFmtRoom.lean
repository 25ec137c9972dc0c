/-
  LawS6515CWhole: fmt's closed facts at this dump, and the walk of (*Store).room.
-/
import Derived.Test.YbulkedxcFmtRows
import Derived.WalkKit
import Derived.WalkSpells
import Derived.RowKit3
import Derived.Stop.CallBack
import Derived.Stop.IfaceNil
import GoSem.ClaimData
namespace Go.Proofs.YbulkedxcFmt
open Go.RowKit Go.Extern.Stop Go.Stop Go.Extern

theorem call21 (args : Array Value) (w : World) : (callFunc 21 args).run Ybaf.prog w = ((FmtStop.errorf #[9, 94] #[75] args).run Ybaf.prog w).andThen fun v w' => .ok (.value v) w' :=
  run_callFunc_extern Ybaf.func21 (by kernel_rfl) (by kernel_rfl) (by kernel_rfl) (by kernel_rfl) args w
theorem guardF (name : String) (w : World) : (FmtStop.guard name).run Ybaf.prog w = .ok () w := by kernel_rfl
theorem fmt0 : FmtStop.printed? ⟨#[116, 104, 101, 32, 115, 116, 111, 114, 101, 32, 99, 97, 110, 110, 111, 116, 32, 116, 97, 107, 101, 32, 37, 100, 32, 109, 111, 114, 101, 32, 114, 101, 113, 117, 101, 115, 116, 115, 58, 32, 105, 116, 32, 104, 97, 115, 32, 116, 97, 107, 101, 110, 32, 37, 100, 44, 32, 97, 115, 32, 109, 97, 110, 121, 32, 97, 115, 32, 105, 116, 32, 99, 97, 110]⟩ 2 = some [(0, 100, false), (1, 100, false)] := by kernel_rfl
theorem fmt0r (w : World) : (FmtDoors.printed ⟨#[116, 104, 101, 32, 115, 116, 111, 114, 101, 32, 99, 97, 110, 110, 111, 116, 32, 116, 97, 107, 101, 32, 37, 100, 32, 109, 111, 114, 101, 32, 114, 101, 113, 117, 101, 115, 116, 115, 58, 32, 105, 116, 32, 104, 97, 115, 32, 116, 97, 107, 101, 110, 32, 37, 100, 44, 32, 97, 115, 32, 109, 97, 110, 121, 32, 97, 115, 32, 105, 116, 32, 99, 97, 110]⟩ 2).run Ybaf.prog w = .ok [(0, 100, false), (1, 100, false)] w := by kernel_rfl
def shape3 : List UInt8 := [5, 3, 0, 0, 0, 0, 0, 0, 0, 105, 110, 116]
theorem op3_100 (name : String) (x : Int) (w : World) : (FmtStop.operand name false 100 false (.iface 3 (.int .i64 x))).run Ybaf.prog w = .ok (shape3, Go.Extern.Stop.digits 8 (x % 2 ^ 64).toNat) w := by kernel_rfl
theorem op3_100w (name : String) (x : Int) (w : World) : (FmtStop.operand name true 100 false (.iface 3 (.int .i64 x))).run Ybaf.prog w = .ok (shape3, Go.Extern.Stop.digits 8 (x % 2 ^ 64).toNat) w := by kernel_rfl
theorem ptr106 (w : World) : (FmtStop.ptrTo "errors.errorString").run Ybaf.prog w = .ok 106 w := by kernel_rfl
theorem elem106 (w : World) : (elemOf 106).run Ybaf.prog w = .ok 108 w := by kernel_rfl
theorem isError106 (w : World) : (FmtDoors.textMethod 106 "Error").run Ybaf.prog w = .ok true w := by kernel_rfl
theorem ptr96 (w : World) : (FmtStop.ptrTo "fmt.wrapError").run Ybaf.prog w = .ok 96 w := by kernel_rfl

attribute [local go_sem] call21 guardF fmt0 fmt0r op3_100 op3_100w ptr106 elem106 isError106 ptr96

/-- room refuses: a new error -/
theorem room_no (F : Interp) (b : Nat) (t n : Int) (w : World) (hF : F.answers w.tape) (hc : w.cell? ⟨b, 108, none⟩ = some (.int .i64 t)) (hn : wrap64 (2147483647 - n) < t) :
    Calls Ybaf.prog 4 #[.pointer (some ⟨b, 0, none⟩), .int .i64 n] w fun e w' => e = .returned (.iface 106 (.pointer (some ⟨w.heap.size + 1, 0, none⟩))) ∧ Below w.heap.size w w' := by
  have hF' : ∀ i name reading k range, w.tape i (.extern (word name reading k) range) = F name reading k := hF
  go_enter Ybaf.func4, Ybaf.ntmps4
  go_wp2
  go_ret
  exact ⟨rfl, (((Below.refl _ _).alloc (Nat.le_refl _) _).alloc (by simp) _).drew⟩

/-- room does not refuse -/
theorem room_yes (b : Nat) (t n : Int) (w : World) (hc : w.cell? ⟨b, 108, none⟩ = some (.int .i64 t)) (hn : ¬ wrap64 (2147483647 - n) < t) :
    Calls Ybaf.prog 4 #[.pointer (some ⟨b, 0, none⟩), .int .i64 n] w fun e w' => e = .returned .nilIface ∧ Below w.heap.size w w' := by
  go_enter Ybaf.func4, Ybaf.ntmps4
  go_wp2
  go_ret
  exact ⟨rfl, Below.refl _ _⟩
end Go.Proofs.YbulkedxcFmt
