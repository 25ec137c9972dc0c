/-
  LawS6515CWhole: addVV, subVV over one word; nat.norm, nat.make, nat.set.
-/
import Derived.Test.YbulkedxcFmtBits
namespace Go.Proofs.YbulkedxcFmt
open Go.RowKit

set_option maxHeartbeats 400000 in
theorem addVVg (bz oz cz bx ox cx dy oy cy : Nat) (x y : Int) (v : Value) (hx : Word x) (hy : Word y) (w : World)
    (hzc : w.cell? ⟨bz, oz, none⟩ = some v) (hzf : w.frozen? ⟨bz, oz, none⟩ = false)
    (hxc : w.cell? ⟨bx, ox, none⟩ = some (.int .u64 x)) (hyc : w.cell? ⟨dy, oy, none⟩ = some (.int .u64 y)) :
    Calls Ybaf.prog 11 #[.slice (some ⟨bz, oz, none⟩) 1 cz, .slice (some ⟨bx, ox, none⟩) 1 cx, .slice (some ⟨dy, oy, none⟩) 1 cy] w fun e w' =>
      e = .returned (.int .u64 (hi x y)) ∧ ∃ n, w' = (w.drewN n).setCell ⟨bz, oz, none⟩ (.int .u64 (lo x y)) := by
  go_enter Ybaf.func11, Ybaf.ntmps11
  go_wp2
  refine wp_loop_rounds 2 ?_
  rw [rounds_succ]
  go_wp2
  go_quiet ((go_at_call 28; exact Calls.quiet_of_same (bitsAdd x y hx hy _)))
  go_wp2
  rw [rounds_succ]
  go_wp2
  go_ret
  exact ⟨rfl, nq, rfl⟩

set_option maxHeartbeats 400000 in
theorem subVVg (bz oz cz bx ox cx dy oy cy : Nat) (x y : Int) (v : Value) (hx : Word x) (hy : Word y) (w : World)
    (hzc : w.cell? ⟨bz, oz, none⟩ = some v) (hzf : w.frozen? ⟨bz, oz, none⟩ = false)
    (hxc : w.cell? ⟨bx, ox, none⟩ = some (.int .u64 x)) (hyc : w.cell? ⟨dy, oy, none⟩ = some (.int .u64 y)) :
    Calls Ybaf.prog 12 #[.slice (some ⟨bz, oz, none⟩) 1 cz, .slice (some ⟨bx, ox, none⟩) 1 cx, .slice (some ⟨dy, oy, none⟩) 1 cy] w fun e w' =>
      e = .returned (.int .u64 (bw x y)) ∧ ∃ n, w' = (w.drewN n).setCell ⟨bz, oz, none⟩ (.int .u64 (dl x y)) := by
  go_enter Ybaf.func12, Ybaf.ntmps12
  go_wp2
  refine wp_loop_rounds 2 ?_
  rw [rounds_succ]
  go_wp2
  go_quiet ((go_at_call 31; exact Calls.quiet_of_same (bitsSub x y hx hy _)))
  go_wp2
  rw [rounds_succ]
  go_wp2
  go_ret
  exact ⟨rfl, nq, rfl⟩

theorem tw25 (args : Array Value) (w : World) : (callFunc 25 args).run Ybaf.prog w = .ok (.enter 11 args) w :=
  run_callFunc_twin (twin := Ybaf.f11.name) Ybaf.func25 (by kernel_rfl) (by kernel_rfl) (by kernel_rfl) (by kernel_rfl) Ybaf.func11 (by kernel_rfl) (by kernel_rfl) (by kernel_rfl) args w
theorem tw29 (args : Array Value) (w : World) : (callFunc 29 args).run Ybaf.prog w = .ok (.enter 12 args) w :=
  run_callFunc_twin (twin := Ybaf.f12.name) Ybaf.func29 (by kernel_rfl) (by kernel_rfl) (by kernel_rfl) (by kernel_rfl) Ybaf.func12 (by kernel_rfl) (by kernel_rfl) (by kernel_rfl) args w

theorem norm1 (b c : Nat) (x : Int) (w : World) (h0 : w.cell? ⟨b, 0, none⟩ = some (.int .u64 x)) (hx : (x == 0) = false) (hc : 1 ≤ c) :
    Calls Ybaf.prog 27 #[.slice (some ⟨b, 0, none⟩) 1 c] w fun e w' => e = .returned (.slice (some ⟨b, 0, none⟩) 1 c) ∧ w' = w := by
  go_enter Ybaf.func27, Ybaf.ntmps27
  go_wp2
  refine wp_loop_rounds 1 ?_
  rw [rounds_succ]
  go_wp2
  go_ret
  exact ⟨rfl, rfl⟩
theorem norm1z (b c : Nat) (w : World) (h0 : w.cell? ⟨b, 0, none⟩ = some (.int .u64 0)) (hc : 1 ≤ c) :
    Calls Ybaf.prog 27 #[.slice (some ⟨b, 0, none⟩) 1 c] w fun e w' => e = .returned (.slice (some ⟨b, 0, none⟩) 0 c) ∧ w' = w := by
  go_enter Ybaf.func27, Ybaf.ntmps27
  go_wp2
  refine wp_loop_rounds 2 ?_
  rw [rounds_succ]
  go_wp2
  rw [rounds_succ]
  go_wp2
  go_ret
  exact ⟨rfl, rfl⟩
theorem norm2 (b c : Nat) (y : Int) (w : World) (h1 : w.cell? ⟨b, 1, none⟩ = some (.int .u64 y)) (hy : (y == 0) = false) (hc : 2 ≤ c) :
    Calls Ybaf.prog 27 #[.slice (some ⟨b, 0, none⟩) 2 c] w fun e w' => e = .returned (.slice (some ⟨b, 0, none⟩) 2 c) ∧ w' = w := by
  go_enter Ybaf.func27, Ybaf.ntmps27
  go_wp2
  refine wp_loop_rounds 1 ?_
  rw [rounds_succ]
  go_wp2
  go_ret
  exact ⟨rfl, rfl⟩
theorem norm2z (b c : Nat) (x : Int) (w : World) (h0 : w.cell? ⟨b, 0, none⟩ = some (.int .u64 x)) (h1 : w.cell? ⟨b, 1, none⟩ = some (.int .u64 0)) (hx : (x == 0) = false) (hc : 2 ≤ c) :
    Calls Ybaf.prog 27 #[.slice (some ⟨b, 0, none⟩) 2 c] w fun e w' => e = .returned (.slice (some ⟨b, 0, none⟩) 1 c) ∧ w' = w := by
  go_enter Ybaf.func27, Ybaf.ntmps27
  go_wp2
  refine wp_loop_rounds 2 ?_
  rw [rounds_succ]
  go_wp2
  rw [rounds_succ]
  go_wp2
  go_ret
  exact ⟨rfl, rfl⟩
theorem norm3z (b c : Nat) (y : Int) (w : World) (h1 : w.cell? ⟨b, 1, none⟩ = some (.int .u64 y)) (h2 : w.cell? ⟨b, 2, none⟩ = some (.int .u64 0)) (hy : (y == 0) = false) (hc : 3 ≤ c) :
    Calls Ybaf.prog 27 #[.slice (some ⟨b, 0, none⟩) 3 c] w fun e w' => e = .returned (.slice (some ⟨b, 0, none⟩) 2 c) ∧ w' = w := by
  go_enter Ybaf.func27, Ybaf.ntmps27
  go_wp2
  refine wp_loop_rounds 2 ?_
  rw [rounds_succ]
  go_wp2
  rw [rounds_succ]
  go_wp2
  go_ret
  exact ⟨rfl, rfl⟩

theorem mk1 (w : World) : (Instr.makeSlice 79 (.int .i64 1) (.int .i64 1)).run Ybaf.prog w = .ok (.slice (some ⟨w.heap.size, 0, none⟩) 1 1) (w.alloc (.cells #[.int .u64 0] 92)) := by kernel_rfl
theorem mk2 (w : World) : (Instr.makeSlice 79 (.int .i64 2) (.int .i64 6)).run Ybaf.prog w = .ok (.slice (some ⟨w.heap.size, 0, none⟩) 2 6) (w.alloc (.cells #[.int .u64 0, .int .u64 0, .int .u64 0, .int .u64 0, .int .u64 0, .int .u64 0] 92)) := by kernel_rfl
theorem mk3 (w : World) : (Instr.makeSlice 79 (.int .i64 3) (.int .i64 7)).run Ybaf.prog w = .ok (.slice (some ⟨w.heap.size, 0, none⟩) 3 7) (w.alloc (.cells #[.int .u64 0, .int .u64 0, .int .u64 0, .int .u64 0, .int .u64 0, .int .u64 0, .int .u64 0] 92)) := by kernel_rfl

theorem make1 (w : World) : Calls Ybaf.prog 24 #[.slice none 0 0, .int .i64 1] w fun e w' => e = .returned (.slice (some ⟨w.heap.size, 0, none⟩) 1 1) ∧ w' = w.alloc (.cells #[.int .u64 0] 92) := by
  have h := mk1
  go_enter Ybaf.func24, Ybaf.ntmps24
  go_wp2
  go_ret
  exact ⟨rfl, rfl⟩
theorem make2 (w : World) : Calls Ybaf.prog 24 #[.slice none 0 0, .int .i64 2] w fun e w' => e = .returned (.slice (some ⟨w.heap.size, 0, none⟩) 2 6) ∧ w' = w.alloc (.cells #[.int .u64 0, .int .u64 0, .int .u64 0, .int .u64 0, .int .u64 0, .int .u64 0] 92) := by
  have h := mk2
  go_enter Ybaf.func24, Ybaf.ntmps24
  go_wp2
  go_ret
  exact ⟨rfl, rfl⟩
theorem make3 (w : World) : Calls Ybaf.prog 24 #[.slice none 0 0, .int .i64 3] w fun e w' => e = .returned (.slice (some ⟨w.heap.size, 0, none⟩) 3 7) ∧ w' = w.alloc (.cells #[.int .u64 0, .int .u64 0, .int .u64 0, .int .u64 0, .int .u64 0, .int .u64 0, .int .u64 0] 92) := by
  have h := mk3
  go_enter Ybaf.func24, Ybaf.ntmps24
  go_wp2
  go_ret
  exact ⟨rfl, rfl⟩

theorem size92 : (Ybaf.prog.info? 92).map (·.size) = some 1 := by kernel_rfl
theorem copy1 (b c : Nat) (x : Int) (w : World) (hb : b < w.heap.size) (hx : w.cell? ⟨b, 0, none⟩ = some (.int .u64 x)) (ty : TypeId) :
    (Builtin.copy_ #[79, 79] ty #[.slice (some ⟨w.heap.size, 0, none⟩) 1 1, .slice (some ⟨b, 0, none⟩) 1 c]).run Ybaf.prog (w.alloc (.cells #[.int .u64 0] 92)) = .ok (goInt 1) (w.alloc (.cells #[.int .u64 x] 92)) := by
  have h := run_copy_cells (P := Ybaf.prog) (w.alloc (.cells #[.int .u64 0] 92)) 79 79 ty 92 w.heap.size 0 1 1 ⟨b, 0, none⟩ 1 c [.int .u64 x] Ybaf.underlying79 size92 rfl
    (by intro j v hj
        cases j with
        | zero => simp at hj; subst hj; exact (((Below.refl _ w).alloc (Nat.le_refl _) _).cell (p := ⟨b, 0, none⟩) hb).trans hx
        | succ j => simp at hj)
    (by intro j hj; have : j = 0 := by simpa using hj
        subst this; simp)
    (by intro j hj; simp) (by simp [Value.oneCell'])
  rw [h]
  simp only [World.setCells]
  rw [World.setCell_alloc_at _ _ _ _ _ rfl]
  rfl

set_option maxHeartbeats 400000 in
theorem set1 (b c : Nat) (x : Int) (w : World) (hb : b < w.heap.size) (hx : w.cell? ⟨b, 0, none⟩ = some (.int .u64 x)) :
    Calls Ybaf.prog 23 #[.slice none 0 0, .slice (some ⟨b, 0, none⟩) 1 c] w fun e w' => e = .returned (.slice (some ⟨w.heap.size, 0, none⟩) 1 1) ∧ w' = w.alloc (.cells #[.int .u64 x] 92) := by
  have hcp := copy1 b c x w hb hx
  go_enter Ybaf.func23, Ybaf.ntmps23
  go_wp2_with (go_at_call 24; refine (make1 _).mono ?_; rintro e w' ⟨rfl, rfl⟩)
  go_ret
  exact ⟨rfl, rfl⟩
end Go.Proofs.YbulkedxcFmt
