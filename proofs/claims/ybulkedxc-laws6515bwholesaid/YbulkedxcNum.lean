/-
  LawS6515BWhole: names are numbered.
-/
import Derived.Test.YbulkedxcVal
import Derived.Laws.MakeOwn
namespace Go.Proofs.Ybulkedxc
open Go.RowKit

/-- the table's header in the store p behind j short names -/
structure HeadAt (W : World) (p s c j : Nat) : Prop where
  h0 : W.cell? ⟨p, 127, none⟩ = some (.slice (some ⟨s, 0, none⟩) 64 c)
  h1 : W.cell? ⟨p, 128, none⟩ = some (.int .i64 j)
  h3 : W.cell? ⟨p, 130, none⟩ = some (.int .i32 j)
  f1 : W.frozen? ⟨p, 128, none⟩ = false
  f3 : W.frozen? ⟨p, 130, none⟩ = false

set_option maxRecDepth 100000 in
set_option maxHeartbeats 1600000 in
theorem number_next (j : Nat) (hj : j < 3) (p s c : Nat) (w : World) (hps : p ≠ s) (hH : HeadAt w p s c j) (k0 k2 : Value) (c0 : w.cell? ⟨s, sx j * 3, none⟩ = some k0) (c1 : w.cell? ⟨s, sx j * 3 + 1, none⟩ = some (.int .i32 0)) (c2 : w.cell? ⟨s, sx j * 3 + 2, none⟩ = some k2)
    (f0 : w.frozen? ⟨s, sx j * 3, none⟩ = false) (f1 : w.frozen? ⟨s, sx j * 3 + 1, none⟩ = false) (f2 : w.frozen? ⟨s, sx j * 3 + 2, none⟩ = false) :
    Calls Yba.prog 13 #[.pointer (some ⟨p, 127, none⟩), .string (nm j)] w fun e w' => e = .returned (.tuple #[.int .i32 j, .bool true]) ∧ ∃ m, w' = (((((w.drewN m).setCell ⟨s, sx j * 3, none⟩ (.int .u64 (120 + j))).setCell ⟨s, sx j * 3 + 1, none⟩ (.int .i32 (j + 1))).setCell ⟨s, sx j * 3 + 2, none⟩ (.int .u8 1)).setCell ⟨p, 128, none⟩ (.int .i64 (j + 1))).setCell ⟨p, 130, none⟩ (.int .i32 (j + 1)) := by
  have hsz := nm_size j hj
  obtain ⟨h0, h1, h3, g1, g3⟩ := hH
  have hne : ¬ p = s := hps
  have hne' : ¬ s = p := fun e => hps e.symm
  have hjj : (j : Int) < 3 := by omega
  have hw1 : IntKind.i32.wrap ((j : Int) + 1) = j + 1 := by
    match j, hj with
    | 0, _ => rfl
    | 1, _ => rfl
    | 2, _ => rfl
  have hw2 : IntKind.u8.wrap 1 = 1 := rfl
  have hw3 : IntKind.i32.wrap ((j : Int) + 1 - 1) = j := by
    match j, hj with
    | 0, _ => rfl
    | 1, _ => rfl
    | 2, _ => rfl
  go_enter Yba.func13, Yba.ntmps13
  go_wp2_with fail
  go_quiet (fail)
  have hmiss := slot_miss j hj p 127 s c (w.drewN nq) (by simpa using h0) (by rw [Nat.mul_comm]; simpa using c1)
  rw [Nat.mul_comm] at hmiss
  have HM := hid hmiss
  clear hmiss
  go_upto_region 14 with (go_at_call 22; refine HM.out.mono ?_; rintro e w' ⟨rfl, rfl⟩)
  go_region_held3 (fun w' => w'.cell? ⟨p, 130, none⟩ = some (.int .i32 j))
    (first | go_keep | (simp [*]; done))
    ((go_at_call 23; refine (packed_nm j hj _).mono ?_; rintro e w' ⟨rfl, rfl⟩))
  go_wp2
  go_ret2
  exact ⟨rfl, nq + 1, rfl⟩
end Go.Proofs.Ybulkedxc
