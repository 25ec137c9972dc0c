/-
  LawS6515CWhole: math/bits.Add, Sub; addVV, subVV over one word.
-/
import Derived.Test.YbulkedxcFmtRows
import Derived.WalkKit
import Derived.WalkSpells
import Derived.WalkLawsBesides
import Derived.Laws.Externs
import Derived.Laws.Twins
import Derived.Laws.BitsAllLaws
import Derived.Deep.QuietTactic
import Derived.BigQuiet
import Derived.Deep.RegionHeld3
import Derived.RowKit3
namespace Go.Proofs.YbulkedxcFmt
open Go.RowKit

/-- a word -/
def Word (x : Int) : Prop := 0 ≤ x ∧ x < 18446744073709551616
/-- the sum's low word, its carry -/
def lo (x y : Int) : Int := (x + y) % 18446744073709551616
def hi (x y : Int) : Int := (x + y) / 18446744073709551616
/-- the difference's word, its borrow -/
def dl (x y : Int) : Int := (x - y) % 18446744073709551616
def bw (x y : Int) : Int := if x < y then 1 else 0

theorem add64 (x y : Int) (hx : Word x) (hy : Word y) (w : World) : (callFunc 36 #[.int .u64 x, .int .u64 y, .int .u64 0]).run Ybaf.prog w =
    .ok (.value (.tuple #[.int .u64 (lo x y), .int .u64 (hi x y)])) w := by
  have h := run_callFunc_extern Ybaf.func36 (by kernel_rfl) (by kernel_rfl) (by kernel_rfl) (e := add64Entry) (by kernel_rfl) #[.int .u64 x, .int .u64 y, .int .u64 0] w
  rw [h, run_add64 x y 0 hx.1 hy.1 (by omega) (by omega)]
  simp [Result.andThen, lo, hi]

def sub64Entry : Array Value → Sem Value := fun args => do
  let (x, y, b) ← Extern.MathBitsCarry.three "Sub64" args
  pure (Extern.MathBitsCarry.pair ((x + Extern.MathBitsCarry.m64 - y - b) % Extern.MathBitsCarry.m64) (if x < y + b then 1 else 0))
theorem run_sub64 (x y : Nat) (w : World) :
    (sub64Entry #[.int .u64 x, .int .u64 y, .int .u64 0]).run Ybaf.prog w =
      .ok (.tuple #[.int .u64 (((x + 18446744073709551616 - y - 0) % 18446744073709551616 : Nat) : Int), .int .u64 ((if x < y + 0 then 1 else 0 : Nat) : Int)]) w := rfl
theorem sub64 (x y : Int) (hx : Word x) (hy : Word y) (w : World) : (callFunc 38 #[.int .u64 x, .int .u64 y, .int .u64 0]).run Ybaf.prog w =
    .ok (.value (.tuple #[.int .u64 (dl x y), .int .u64 (bw x y)])) w := by
  have h := run_callFunc_extern Ybaf.func38 (by kernel_rfl) (by kernel_rfl) (by kernel_rfl) (e := sub64Entry) (by kernel_rfl) #[.int .u64 x, .int .u64 y, .int .u64 0] w
  obtain ⟨h1, h2⟩ := hx
  obtain ⟨h3, h4⟩ := hy
  obtain ⟨X, rfl⟩ := Int.eq_ofNat_of_zero_le h1
  obtain ⟨Y, rfl⟩ := Int.eq_ofNat_of_zero_le h3
  rw [h, run_sub64 X Y]
  have e1 : (((X + 18446744073709551616 - Y - 0) % 18446744073709551616 : Nat) : Int) = dl X Y := by unfold dl; omega
  have e2 : ((if X < Y + 0 then 1 else 0 : Nat) : Int) = bw X Y := by unfold bw; split <;> split <;> omega
  rw [e1, e2]
  rfl

theorem bitsAdd (x y : Int) (hx : Word x) (hy : Word y) (w : World) :
    Calls Ybaf.prog 28 #[.int .u64 x, .int .u64 y, .int .u64 0] w fun e w' => e = .returned (.tuple #[.int .u64 (lo x y), .int .u64 (hi x y)]) ∧ w' = w := by
  have h := fun w => add64 x y hx hy w
  go_enter Ybaf.func28, Ybaf.ntmps28
  go_wp2
  go_ret2
  exact ⟨rfl, rfl⟩

theorem bitsSub (x y : Int) (hx : Word x) (hy : Word y) (w : World) :
    Calls Ybaf.prog 31 #[.int .u64 x, .int .u64 y, .int .u64 0] w fun e w' => e = .returned (.tuple #[.int .u64 (dl x y), .int .u64 (bw x y)]) ∧ w' = w := by
  have h := fun w => sub64 x y hx hy w
  go_enter Ybaf.func31, Ybaf.ntmps31
  go_wp2
  go_ret2
  exact ⟨rfl, rfl⟩

end Go.Proofs.YbulkedxcFmt
