/-
  LawS6515CWhole: nat.add, nat.sub, nat.cmp over numbers of no word, one word, two words.
-/
import Derived.Test.YbulkedxcFmtVV
namespace Go.Proofs.YbulkedxcFmt
open Go.RowKit

set_option maxHeartbeats 400000 in
/-- two words come out: there is a carry -/
theorem add11c (bx cx dy cy : Nat) (x y : Int) (hx : Word x) (hy : Word y) (w : World) (hbx : bx < w.heap.size) (hdy : dy < w.heap.size) (hcx : 1 ≤ cx) (hcy : 1 ≤ cy)
    (hxc : w.cell? ⟨bx, 0, none⟩ = some (.int .u64 x)) (hyc : w.cell? ⟨dy, 0, none⟩ = some (.int .u64 y)) (hh : (hi x y == 0) = false) :
    Calls Ybaf.prog 17 #[.slice none 0 0, .slice (some ⟨bx, 0, none⟩) 1 cx, .slice (some ⟨dy, 0, none⟩) 1 cy] w fun e w' =>
      e = .returned (.slice (some ⟨w.heap.size, 0, none⟩) 2 6) ∧ Below w.heap.size w w' ∧ w'.cell? ⟨w.heap.size, 0, none⟩ = some (.int .u64 (lo x y)) ∧ w'.cell? ⟨w.heap.size, 1, none⟩ = some (.int .u64 (hi x y)) ∧ w.heap.size < w'.heap.size := by
  have h25 := tw25
  have k1 : (1 : Int) ≤ (cx : Int) := by omega
  have k2 : (1 : Int) ≤ (cy : Int) := by omega
  go_enter Ybaf.func17, Ybaf.ntmps17
  go_wp2_with (go_at_call 24; refine (make2 _).mono ?_; rintro e w' ⟨rfl, rfl⟩)
  go_region_held3 (fun _ => True) (trivial) ((first | (go_at_call 11; refine (addVVg w.heap.size 0 6 bx 0 cx dy 0 cy x y (.int .u64 0) hx hy _ ?_ ?_ ?_ ?_).mono ?_; (simp [go_sem, *]); (simp [go_sem, *]); (simp [go_sem, *]); (simp [go_sem, *]); rintro e w' ⟨rfl, n, rfl⟩)))
  go_wp2_with fail
  refine (norm2 w.heap.size 6 (hi x y) _ (by simp [go_sem]) hh (by omega)).mono ?_
  rintro e w' ⟨rfl, rfl⟩
  go_wp2
  go_ret
  exact ⟨rfl, (((below_drewN ((Below.refl _ _).alloc (Nat.le_refl _) _) _).setCell (Nat.le_refl _) _).setCell (Nat.le_refl _) _), by simp [go_sem], by simp [go_sem], by simp⟩

set_option maxHeartbeats 400000 in
/-- one word comes out -/
theorem add11n (bx cx dy cy : Nat) (x y : Int) (hx : Word x) (hy : Word y) (w : World) (hbx : bx < w.heap.size) (hdy : dy < w.heap.size) (hcx : 1 ≤ cx) (hcy : 1 ≤ cy)
    (hxc : w.cell? ⟨bx, 0, none⟩ = some (.int .u64 x)) (hyc : w.cell? ⟨dy, 0, none⟩ = some (.int .u64 y)) (hh : hi x y = 0) (hl : (lo x y == 0) = false) :
    Calls Ybaf.prog 17 #[.slice none 0 0, .slice (some ⟨bx, 0, none⟩) 1 cx, .slice (some ⟨dy, 0, none⟩) 1 cy] w fun e w' =>
      e = .returned (.slice (some ⟨w.heap.size, 0, none⟩) 1 6) ∧ Below w.heap.size w w' ∧ w'.cell? ⟨w.heap.size, 0, none⟩ = some (.int .u64 (lo x y)) ∧ w.heap.size < w'.heap.size := by
  have h25 := tw25
  have k1 : (1 : Int) ≤ (cx : Int) := by omega
  have k2 : (1 : Int) ≤ (cy : Int) := by omega
  go_enter Ybaf.func17, Ybaf.ntmps17
  go_wp2_with (go_at_call 24; refine (make2 _).mono ?_; rintro e w' ⟨rfl, rfl⟩)
  go_region_held3 (fun _ => True) (trivial) ((first | (go_at_call 11; refine (addVVg w.heap.size 0 6 bx 0 cx dy 0 cy x y (.int .u64 0) hx hy _ ?_ ?_ ?_ ?_).mono ?_; (simp [go_sem, *]); (simp [go_sem, *]); (simp [go_sem, *]); (simp [go_sem, *]); rintro e w' ⟨rfl, n, rfl⟩)))
  go_wp2_with fail
  refine (norm2z w.heap.size 6 (lo x y) _ (by simp [go_sem]) (by simp [go_sem]) hl (by omega)).mono ?_
  rintro e w' ⟨rfl, rfl⟩
  go_wp2
  go_ret
  exact ⟨rfl, (((below_drewN ((Below.refl _ _).alloc (Nat.le_refl _) _) _).setCell (Nat.le_refl _) _).setCell (Nat.le_refl _) _), by simp [go_sem], by simp⟩

theorem add00 (a a' : Option Addr) (c c' : Nat) (w : World) :
    Calls Ybaf.prog 17 #[.slice none 0 0, .slice a 0 c, .slice a' 0 c'] w fun e w' => e = .returned (.slice none 0 0) ∧ w' = w := by
  go_enter Ybaf.func17, Ybaf.ntmps17
  go_wp2
  go_ret
  exact ⟨rfl, rfl⟩

theorem add10 (bx cx : Nat) (a' : Option Addr) (c' : Nat) (x : Int) (w : World) (hbx : bx < w.heap.size) (hxc : w.cell? ⟨bx, 0, none⟩ = some (.int .u64 x)) :
    Calls Ybaf.prog 17 #[.slice none 0 0, .slice (some ⟨bx, 0, none⟩) 1 cx, .slice a' 0 c'] w fun e w' => e = .returned (.slice (some ⟨w.heap.size, 0, none⟩) 1 1) ∧ w' = w.alloc (.cells #[.int .u64 x] 92) := by
  go_enter Ybaf.func17, Ybaf.ntmps17
  go_wp2_with (go_at_call 23; refine (set1 bx cx x _ hbx hxc).mono ?_; rintro e w' ⟨rfl, rfl⟩)
  go_ret
  exact ⟨rfl, rfl⟩

theorem add01 (bx cx : Nat) (a' : Option Addr) (c' : Nat) (x : Int) (w : World) (hbx : bx < w.heap.size) (hxc : w.cell? ⟨bx, 0, none⟩ = some (.int .u64 x)) :
    Calls Ybaf.prog 17 #[.slice none 0 0, .slice a' 0 c', .slice (some ⟨bx, 0, none⟩) 1 cx] w fun e w' => e = .returned (.slice (some ⟨w.heap.size, 0, none⟩) 1 1) ∧ w' = w.alloc (.cells #[.int .u64 x] 92) := by
  go_enter Ybaf.func17, Ybaf.ntmps17
  go_wp2_with (go_at_call 17; refine (add10 bx cx a' c' x _ hbx hxc).mono ?_; rintro e w' ⟨rfl, rfl⟩)
  go_ret
  exact ⟨rfl, rfl⟩

theorem sub10 (bx cx : Nat) (a' : Option Addr) (c' : Nat) (x : Int) (w : World) (hbx : bx < w.heap.size) (hxc : w.cell? ⟨bx, 0, none⟩ = some (.int .u64 x)) :
    Calls Ybaf.prog 19 #[.slice none 0 0, .slice (some ⟨bx, 0, none⟩) 1 cx, .slice a' 0 c'] w fun e w' => e = .returned (.slice (some ⟨w.heap.size, 0, none⟩) 1 1) ∧ w' = w.alloc (.cells #[.int .u64 x] 92) := by
  go_enter Ybaf.func19, Ybaf.ntmps19
  go_wp2_with (go_at_call 23; refine (set1 bx cx x _ hbx hxc).mono ?_; rintro e w' ⟨rfl, rfl⟩)
  go_ret
  exact ⟨rfl, rfl⟩

set_option maxHeartbeats 400000 in
theorem sub11 (bx cx dy cy : Nat) (x y : Int) (hx : Word x) (hy : Word y) (w : World) (hbx : bx < w.heap.size) (hdy : dy < w.heap.size) (hcx : 1 ≤ cx) (hcy : 1 ≤ cy)
    (hxc : w.cell? ⟨bx, 0, none⟩ = some (.int .u64 x)) (hyc : w.cell? ⟨dy, 0, none⟩ = some (.int .u64 y)) (hh : bw x y = 0) (hl : (dl x y == 0) = false) :
    Calls Ybaf.prog 19 #[.slice none 0 0, .slice (some ⟨bx, 0, none⟩) 1 cx, .slice (some ⟨dy, 0, none⟩) 1 cy] w fun e w' =>
      e = .returned (.slice (some ⟨w.heap.size, 0, none⟩) 1 1) ∧ Below w.heap.size w w' ∧ w'.cell? ⟨w.heap.size, 0, none⟩ = some (.int .u64 (dl x y)) ∧ w.heap.size < w'.heap.size := by
  have h29 := tw29
  have k1 : (1 : Int) ≤ (cx : Int) := by omega
  have k2 : (1 : Int) ≤ (cy : Int) := by omega
  go_enter Ybaf.func19, Ybaf.ntmps19
  go_wp2_with (go_at_call 24; refine (make1 _).mono ?_; rintro e w' ⟨rfl, rfl⟩)
  go_region_held3 (fun _ => True) (trivial) ((first | (go_at_call 12; refine (subVVg w.heap.size 0 1 bx 0 cx dy 0 cy x y (.int .u64 0) hx hy _ ?_ ?_ ?_ ?_).mono ?_; (simp [go_sem, *]); (simp [go_sem, *]); (simp [go_sem, *]); (simp [go_sem, *]); rintro e w' ⟨rfl, n, rfl⟩)))
  go_wp2_with fail
  refine (norm1 w.heap.size 1 (dl x y) _ (by simp [go_sem]) hl (by omega)).mono ?_
  rintro e w' ⟨rfl, rfl⟩
  go_wp2
  go_ret
  exact ⟨rfl, ((below_drewN ((Below.refl _ _).alloc (Nat.le_refl _) _) _).setCell (Nat.le_refl _) _), by simp [go_sem], by simp⟩

set_option maxHeartbeats 400000 in
theorem sub11z (bx cx dy cy : Nat) (x y : Int) (hx : Word x) (hy : Word y) (w : World) (hbx : bx < w.heap.size) (hdy : dy < w.heap.size) (hcx : 1 ≤ cx) (hcy : 1 ≤ cy)
    (hxc : w.cell? ⟨bx, 0, none⟩ = some (.int .u64 x)) (hyc : w.cell? ⟨dy, 0, none⟩ = some (.int .u64 y)) (hh : bw x y = 0) (hl : dl x y = 0) :
    Calls Ybaf.prog 19 #[.slice none 0 0, .slice (some ⟨bx, 0, none⟩) 1 cx, .slice (some ⟨dy, 0, none⟩) 1 cy] w fun e w' =>
      e = .returned (.slice (some ⟨w.heap.size, 0, none⟩) 0 1) ∧ Below w.heap.size w w' := by
  have h29 := tw29
  have k1 : (1 : Int) ≤ (cx : Int) := by omega
  have k2 : (1 : Int) ≤ (cy : Int) := by omega
  go_enter Ybaf.func19, Ybaf.ntmps19
  go_wp2_with (go_at_call 24; refine (make1 _).mono ?_; rintro e w' ⟨rfl, rfl⟩)
  go_region_held3 (fun _ => True) (trivial) ((first | (go_at_call 12; refine (subVVg w.heap.size 0 1 bx 0 cx dy 0 cy x y (.int .u64 0) hx hy _ ?_ ?_ ?_ ?_).mono ?_; (simp [go_sem, *]); (simp [go_sem, *]); (simp [go_sem, *]); (simp [go_sem, *]); rintro e w' ⟨rfl, n, rfl⟩)))
  go_wp2_with fail
  refine (norm1z w.heap.size 1 _ (by simp [go_sem]) (by omega)).mono ?_
  rintro e w' ⟨rfl, rfl⟩
  go_wp2
  go_ret
  exact ⟨rfl, ((below_drewN ((Below.refl _ _).alloc (Nat.le_refl _) _) _).setCell (Nat.le_refl _) _)⟩
end Go.Proofs.YbulkedxcFmt
