/-
  LawS6515BWhole: the table of items: packed, slotIndex, slot, find.
-/
import Derived.Test.YbulkedxcRows
import Derived.WalkKit
import Derived.WalkSpells
import Derived.WalkLawsBesides
import Derived.OwnWalk
import Derived.Below
import Derived.Test.YbulkedxcMaps
namespace Go.Proofs.Ybulkedxc
open Go.RowKit

/-- the four names -/
def nm (j : Nat) : ByteArray := if j = 0 then ⟨#[120]⟩ else if j = 1 then ⟨#[121]⟩ else if j = 2 then ⟨#[122]⟩ else ⟨#[108, 111, 110, 103, 101, 114, 95, 105, 116, 101, 109]⟩
/-- where a short name's slot begins -/
def sx (j : Nat) : Nat := if j = 0 then 51 else if j = 1 then 45 else 38

set_option maxRecDepth 100000 in
theorem packed_one (c : UInt8) (n : Int) (hn : (c.toNat : Int) = n) (h0 : bits .or .u64 0 n = n) (w : World) : Calls Yba.prog 23 #[.string ⟨#[c]⟩] w fun e w' => e = .returned (.int .u64 n) ∧ w' = w := by
  have hsz : (ByteArray.mk #[c]).size = 1 := rfl
  have hix : ∀ h, (((ByteArray.mk #[c])[0]'h).toNat : Int) = n := fun _ => hn
  have hb : n < 256 := by have := c.toNat_lt; omega
  have hp : 0 ≤ n := by omega
  clear hn
  go_enter Yba.func23, Yba.ntmps23
  go_wp2
  refine wp_loop_rounds 2 ?_
  rw [rounds_succ]
  go_wp2
  rw [rounds_succ]
  go_wp2
  go_ret
  exact ⟨rfl, rfl⟩

theorem packed_nm (j : Nat) (hj : j < 3) (w : World) : Calls Yba.prog 23 #[.string (nm j)] w fun e w' => e = .returned (.int .u64 (120 + j)) ∧ w' = w := by
  match j, hj with
  | 0, _ => exact packed_one 120 120 rfl (by decide) w
  | 1, _ => exact packed_one 121 121 rfl (by decide) w
  | 2, _ => exact packed_one 122 122 rfl (by decide) w

theorem slotIndex_nm (j : Nat) (hj : j < 3) (w : World) : Calls Yba.prog 30 #[.int .u64 (120 + j), .int .i64 63] w fun e w' => e = .returned (.int .i64 (sx j)) ∧ w' = w := by
  match j, hj with
  | 0, _ =>
    go_enter Yba.func30, Yba.ntmps30
    go_wp2
    go_ret
    exact ⟨congrArg (fun x => Ending.returned (Value.int .i64 x)) (by kernel_rfl), rfl⟩
  | 1, _ =>
    go_enter Yba.func30, Yba.ntmps30
    go_wp2
    go_ret
    exact ⟨congrArg (fun x => Ending.returned (Value.int .i64 x)) (by kernel_rfl), rfl⟩
  | 2, _ =>
    go_enter Yba.func30, Yba.ntmps30
    go_wp2
    go_ret
    exact ⟨congrArg (fun x => Ending.returned (Value.int .i64 x)) (by kernel_rfl), rfl⟩

theorem nm_size (j : Nat) (hj : j < 3) : (nm j).size = 1 := by
  match j, hj with
  | 0, _ => rfl
  | 1, _ => rfl
  | 2, _ => rfl

set_option maxRecDepth 100000 in
/-- the slot of a short name: found -/
theorem slot_hit (j : Nat) (hj : j < 3) (p o s c : Nat) (w : World) (h0 : w.cell? ⟨p, o, none⟩ = some (.slice (some ⟨s, 0, none⟩) 64 c))
    (hn : w.cell? ⟨s, 3 * sx j, none⟩ = some (.int .u64 (120 + j))) (h1 : w.cell? ⟨s, 3 * sx j + 1, none⟩ = some (.int .i32 (j + 1))) (h2 : w.cell? ⟨s, 3 * sx j + 2, none⟩ = some (.int .u8 1)) :
    Calls Yba.prog 22 #[.pointer (some ⟨p, o, none⟩), .string (nm j)] w fun e w' => e = .returned (.tuple #[.pointer (some ⟨s, 3 * sx j, none⟩), .bool true]) ∧ w' = w := by
  have hsz := nm_size j hj
  have hsx : sx j < 64 := by unfold sx; split; omega; split <;> omega
  have hj0 : ((j : Int) + 1 == 0) = false := by simp; omega
  have hm : 3 * sx j = sx j * 3 := Nat.mul_comm _ _
  rw [hm] at hn h1 h2
  rw [hm]
  clear hm
  go_enter Yba.func22, Yba.ntmps22
  go_wp2_with (first | (go_at_call 23; refine (packed_nm j hj _).mono ?_; rintro e w' ⟨rfl, rfl⟩) | (go_at_call 30; refine (slotIndex_nm j hj _).mono ?_; rintro e w' ⟨rfl, rfl⟩))
  refine wp_loop_rounds 1 ?_
  rw [rounds_succ]
  go_wp2
  go_ret2
  exact ⟨rfl, rfl⟩

set_option maxRecDepth 100000 in
/-- the slot of a short name: an empty one -/
theorem slot_miss (j : Nat) (hj : j < 3) (p o s c : Nat) (w : World) (h0 : w.cell? ⟨p, o, none⟩ = some (.slice (some ⟨s, 0, none⟩) 64 c))
    (h1 : w.cell? ⟨s, 3 * sx j + 1, none⟩ = some (.int .i32 0)) :
    Calls Yba.prog 22 #[.pointer (some ⟨p, o, none⟩), .string (nm j)] w fun e w' => e = .returned (.tuple #[.pointer (some ⟨s, 3 * sx j, none⟩), .bool false]) ∧ w' = w := by
  have hsz := nm_size j hj
  have hsx : sx j < 64 := by unfold sx; split; omega; split <;> omega
  have hm : 3 * sx j = sx j * 3 := Nat.mul_comm _ _
  rw [hm] at h1
  rw [hm]
  clear hm
  go_enter Yba.func22, Yba.ntmps22
  go_wp2_with (first | (go_at_call 23; refine (packed_nm j hj _).mono ?_; rintro e w' ⟨rfl, rfl⟩) | (go_at_call 30; refine (slotIndex_nm j hj _).mono ?_; rintro e w' ⟨rfl, rfl⟩))
  refine wp_loop_rounds 1 ?_
  rw [rounds_succ]
  go_wp2
  go_ret2
  exact ⟨rfl, rfl⟩

/-- the table as the four names leave it -/
structure TabAt (W : World) (p s c l : Nat) : Prop where
  h0 : W.cell? ⟨p, 127, none⟩ = some (.slice (some ⟨s, 0, none⟩) 64 c)
  hl : W.cell? ⟨p, 129, none⟩ = some (.map (some l))
  hn : ∀ j, j < 3 → W.cell? ⟨s, 3 * sx j, none⟩ = some (.int .u64 (120 + j))
  h1 : ∀ j, j < 3 → W.cell? ⟨s, 3 * sx j + 1, none⟩ = some (.int .i32 (j + 1))
  h2 : ∀ j, j < 3 → W.cell? ⟨s, 3 * sx j + 2, none⟩ = some (.int .u8 1)
  hm : W.heap[l]? = some (.map #[{ key := .string (nm 3), val := .int .i32 3, born := 0 }] 1)

set_option maxRecDepth 100000 in
theorem find_short (j : Nat) (hj : j < 3) (p s c l : Nat) (w : World) (hT : TabAt w p s c l) :
    Calls Yba.prog 33 #[.pointer (some ⟨p, 127, none⟩), .string (nm j)] w fun e w' => e = .returned (.tuple #[.int .i32 j, .bool true]) ∧ w' = w := by
  have hsz := nm_size j hj
  have h0 := hT.h0
  have h1 := hT.h1 j hj
  have HT : Hid (TabAt w p s c l) := hT
  have hw : IntKind.i32.wrap ((j : Int) + 1 - 1) = j := by
    match j, hj with
    | 0, _ => rfl
    | 1, _ => rfl
    | 2, _ => rfl
  clear hT
  go_enter Yba.func33, Yba.ntmps33
  go_wp2_with (go_at_call 22; refine (slot_hit j hj p 127 s c _ HT.out.h0 (HT.out.hn j hj) (HT.out.h1 j hj) (HT.out.h2 j hj)).mono ?_; rintro e w' ⟨rfl, rfl⟩)
  go_ret2
  exact ⟨rfl, rfl⟩

set_option maxRecDepth 100000 in
theorem find_long (p s c l : Nat) (w : World) (hT : TabAt w p s c l) :
    Calls Yba.prog 33 #[.pointer (some ⟨p, 127, none⟩), .string (nm 3)] w fun e w' => e = .returned (.tuple #[.int .i32 3, .bool true]) ∧ w' = w := by
  have hsz : (nm 3).size = 11 := rfl
  have hl := hT.hl
  have hlk := run_lookup_hit w (P := Yba.prog) (t := 83) (d := .string) Yba.underlying83 Yba.underlying9 hT.hm (key := .string (nm 3)) (v := .int .i32 3) (i := 0) trivial (by kernel_rfl) true
  simp only [if_true] at hlk
  clear hT
  generalize nm 3 = q at *
  go_enter Yba.func33, Yba.ntmps33
  go_wp2
  go_ret2
  exact ⟨rfl, rfl⟩

theorem find_nm (j : Nat) (hj : j < 4) (p s c l : Nat) (w : World) (hT : TabAt w p s c l) :
    Calls Yba.prog 33 #[.pointer (some ⟨p, 127, none⟩), .string (nm j)] w fun e w' => e = .returned (.tuple #[.int .i32 j, .bool true]) ∧ w' = w := by
  by_cases h : j < 3
  · exact find_short j h p s c l w hT
  · obtain rfl : j = 3 := by omega
    exact find_long p s c l w hT
end Go.Proofs.Ybulkedxc
