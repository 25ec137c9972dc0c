/-
  LawS6515CWhole: nat.sub of two words less one word with a borrow; nat.lsh of one word by 64.
-/
import Derived.Test.YbulkedxcFmtCmp
import Derived.Lib.SliceRun
namespace Go.Proofs.YbulkedxcFmt
open Go.RowKit

theorem word1 : Word 1 := ⟨by omega, by omega⟩

theorem heap_one (w : World) (v : Value) (n : Nat) (c : Array Value) : ((((w.alloc (.cells c 92)).drewN n).setCell ⟨w.heap.size, 0, none⟩ v).drew).heap[w.heap.size]? = some (.cells (c.setIfInBounds 0 v) 92 (0, 0)) := by
  show ((w.alloc (.cells c 92)).setCell ⟨w.heap.size, 0, none⟩ v).heap[w.heap.size]? = _
  rw [World.setCell_alloc_at _ _ _ _ _ rfl]
  exact (MapKept.heap_alloc w _).1
theorem heap_old (w : World) (v : Value) (n : Nat) (c : Array Value) (b : Nat) (hb : b < w.heap.size) (o : Obj) (h : w.heap[b]? = some o) : ((((w.alloc (.cells c 92)).drewN n).setCell ⟨w.heap.size, 0, none⟩ v).drew).heap[b]? = some o := by
  show ((w.alloc (.cells c 92)).setCell ⟨w.heap.size, 0, none⟩ v).heap[b]? = _
  rw [World.setCell_alloc_at _ _ _ _ _ rfl, Below.heap_alloc _ _ _ hb]; exact h

set_option maxHeartbeats 800000 in
theorem sub21 (bx dy cy : Nat) (x0 x1 y : Int) (hx0 : Word x0) (hx1 : Word x1) (hy : Word y) (w : World) (hbx : bx < w.heap.size) (hdy : dy < w.heap.size) (hcy : 1 ≤ cy) (csx : Array Value) (tx : TypeId)
    (hhx : w.heap[bx]? = some (.cells csx tx (0, 0)))
    (hxc : w.cell? ⟨bx, 0, none⟩ = some (.int .u64 x0)) (hxc1 : w.cell? ⟨bx, 1, none⟩ = some (.int .u64 x1)) (hyc : w.cell? ⟨dy, 0, none⟩ = some (.int .u64 y)) (hb : bw x0 y = 1) (hb1 : bw x1 1 = 0) (hd1 : dl x1 1 = 0) (hl : (dl x0 y == 0) = false) :
    Calls Ybaf.prog 19 #[.slice none 0 0, .slice (some ⟨bx, 0, none⟩) 2 7, .slice (some ⟨dy, 0, none⟩) 1 cy] w fun e w' =>
      e = .returned (.slice (some ⟨w.heap.size, 0, none⟩) 1 6) ∧ Below w.heap.size w w' ∧ w'.cell? ⟨w.heap.size, 0, none⟩ = some (.int .u64 (dl x0 y)) ∧ w.heap.size < w'.heap.size := by
  have h29 := tw29
  have k2 : (1 : Int) ≤ (cy : Int) := by omega
  have hne : w.heap.size ≠ bx := by omega
  have HX : Hid (w.heap[bx]? = some (.cells csx tx (0, 0))) := hhx
  clear hhx
  go_enter Ybaf.func19, Ybaf.ntmps19
  go_wp2_with (go_at_call 24; refine (make2 _).mono ?_; rintro e w' ⟨rfl, rfl⟩)
  go_region_held3 (fun _ => True) (trivial) ((first | (go_at_call 12; refine (subVVg w.heap.size 0 6 bx 0 7 dy 0 cy x0 y (.int .u64 0) hx0 hy _ ?_ ?_ ?_ ?_).mono ?_; (simp [go_sem, *]); (simp [go_sem, *]); (simp [go_sem, *]); (simp [go_sem, *]); rintro e w' ⟨rfl, n, rfl⟩)))
  go_wp2_with fail
  go_region_held3 (fun _ => True) (trivial) ((first | (go_at_call 30; refine (subVW1 w.heap.size 1 5 bx 1 6 x1 1 (.int .u64 0) hx1 word1 _ hne (by omega) (by omega) _ csx 92 tx (heap_one _ _ _ _) (heap_old _ _ _ _ _ hbx _ HX.out) ?_ ?_ ?_ hb1).mono ?_; (simp [go_sem]); (simp [go_sem]); (simp [go_sem, *]); rintro e w' ⟨rfl, m, rfl⟩)))
  go_wp2_with fail
  refine (norm2z w.heap.size 6 (dl x0 y) _ (by simp [go_sem]) (by simp [go_sem]) hl (by omega)).mono ?_
  rintro e w' ⟨rfl, rfl⟩
  go_wp2
  go_ret
  exact ⟨rfl, (below_drewN ((below_drewN ((Below.refl _ _).alloc (Nat.le_refl _) _) _).setCell (Nat.le_refl _) _) _).setCell (Nat.le_refl _) _, by simp [go_sem], by simp⟩

theorem copyL (b c : Nat) (w : World) (hb : b < w.heap.size) (hx : w.cell? ⟨b, 0, none⟩ = some (.int .u64 1)) (ty : TypeId) :
    (Builtin.copy_ #[79, 79] ty #[.slice (some ⟨w.heap.size, 1, none⟩) 1 6, .slice (some ⟨b, 0, none⟩) 1 c]).run Ybaf.prog (w.alloc (.cells #[.int .u64 0, .int .u64 0, .int .u64 0, .int .u64 0, .int .u64 0, .int .u64 0, .int .u64 0] 92)) = .ok (goInt 1) (w.alloc (.cells #[.int .u64 0, .int .u64 1, .int .u64 0, .int .u64 0, .int .u64 0, .int .u64 0, .int .u64 0] 92)) := by
  have h := run_copy_cells (P := Ybaf.prog) (w.alloc (.cells #[.int .u64 0, .int .u64 0, .int .u64 0, .int .u64 0, .int .u64 0, .int .u64 0, .int .u64 0] 92)) 79 79 ty 92 w.heap.size 1 1 6 ⟨b, 0, none⟩ 1 c [.int .u64 1] Ybaf.underlying79 size92 rfl
    (by intro j v hj
        cases j with
        | zero => simp at hj; subst hj; exact (((Below.refl _ w).alloc (Nat.le_refl _) _).cell (p := ⟨b, 0, none⟩) hb).trans hx
        | succ j => simp at hj)
    (by intro j hj; have : j = 0 := by simpa using hj
        subst this; simp)
    (by intro j hj; simp) (by simp [Value.oneCell'])
  rw [h]
  simp only [World.setCells]
  rw [World.setCell_alloc_at _ _ _ _ _ rfl]
  rfl

theorem zero92 (w : World) : (zeroValue 92).run Ybaf.prog w = .ok (.int .u64 0) w := by kernel_rfl

set_option maxRecDepth 100000 in
set_option maxHeartbeats 800000 in
theorem lshL (b c : Nat) (w : World) (hb : b < w.heap.size) (hx : w.cell? ⟨b, 0, none⟩ = some (.int .u64 1)) :
    Calls Ybaf.prog 20 #[.slice none 0 0, .slice (some ⟨b, 0, none⟩) 1 c, .int .u64 64] w fun e w' =>
      e = .returned (.slice (some ⟨w.heap.size, 0, none⟩) 2 7) ∧ w' = w.alloc (.cells #[.int .u64 0, .int .u64 1, .int .u64 0, .int .u64 0, .int .u64 0, .int .u64 0, .int .u64 0] 92) := by
  have hcp := copyL b c w hb hx
  have hcl : ∀ ty, (Builtin.clear_ #[79] ty #[.slice (some ⟨w.heap.size, 0, none⟩) 1 7]).run Ybaf.prog (w.alloc (.cells #[.int .u64 0, .int .u64 1, .int .u64 0, .int .u64 0, .int .u64 0, .int .u64 0, .int .u64 0] 92)) = .ok (.tuple #[]) (w.alloc (.cells #[.int .u64 0, .int .u64 1, .int .u64 0, .int .u64 0, .int .u64 0, .int .u64 0, .int .u64 0] 92)) := by
    intro ty
    rw [Lib.run_clear_slice _ 79 92 ty (.int .u64 0) Ybaf.underlying79 zero92 rfl rfl w.heap.size 0 1 7 (by omega)
      (by intro j hj; have : j = 0 := by omega
          subst this; simp)
      (by intro j hj; simp)]
    simp only [List.replicate, World.setCells]
    rw [World.setCell_alloc_at _ _ _ _ _ rfl]
    rfl
  go_enter Ybaf.func20, Ybaf.ntmps20
  go_wp2_with (go_at_call 24; refine (make3 _).mono ?_; rintro e w' ⟨rfl, rfl⟩)
  go_wp2_with (simp only [hcl])
  refine (norm3z w.heap.size 7 1 _ (by simp [go_sem]) (by simp [go_sem]) (by decide) (by omega)).mono ?_
  rintro e w' ⟨rfl, rfl⟩
  go_wp2
  go_ret
  exact ⟨rfl, rfl⟩
end Go.Proofs.YbulkedxcFmt
