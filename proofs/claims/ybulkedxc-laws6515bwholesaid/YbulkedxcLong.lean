/-
  LawS6515BWhole: the long name is numbered.
-/
import Derived.Test.YbulkedxcGrow
namespace Go.Proofs.Ybulkedxc
open Go.RowKit
attribute [local simp] setO_size setT_same

theorem eql_map_nil (w : World) : (binOp .eql 83 (.map none) (.map none)).run Yba.prog w = .ok (.bool true) w := by kernel_rfl

set_option maxRecDepth 100000 in
set_option maxHeartbeats 1600000 in
theorem number_long (p : Nat) (w : World) (hp : p < w.heap.size) (h2 : w.cell? ⟨p, 129, none⟩ = some (.map none)) (h3 : w.cell? ⟨p, 130, none⟩ = some (.int .i32 3)) (f2 : w.frozen? ⟨p, 129, none⟩ = false) (f3 : w.frozen? ⟨p, 130, none⟩ = false) :
    Calls Yba.prog 13 #[.pointer (some ⟨p, 127, none⟩), .string (nm 3)] w fun e w' => e = .returned (.tuple #[.int .i32 3, .bool true]) ∧ w' = (setO ((w.setCell ⟨p, 129, none⟩ (.map (some w.heap.size))).alloc (.map #[] 0)).drew w.heap.size (.map #[{ key := .string (nm 3), val := .int .i32 3, born := 0 }] 1)).setCell ⟨p, 130, none⟩ (.int .i32 4) := by
  have hsz : (nm 3).size = 11 := rfl
  have hlk := run_lookup_nil (P := Yba.prog) w (t := 83) (d := .string) Yba.underlying83 Yba.underlying9 (key := .string (nm 3)) (z := .int .i32 0) trivial (fun w => by kernel_rfl) true
  simp only [if_true] at hlk
  have hmm := @run_makeMap Yba.prog
  have heq := eql_map_nil
  have hne : ¬ p = w.heap.size := by omega
  have hne' : ¬ w.heap.size = p := by omega
  have hup := run_update_new (P := Yba.prog) ((w.setCell ⟨p, 129, none⟩ (.map (some w.heap.size))).alloc (.map #[] 0)).drew (t := 83) (d := .string) Yba.underlying83 Yba.underlying9 (r := w.heap.size) (es := #[]) (c := 0) (by
    show ((w.setCell ⟨p, 129, none⟩ (.map (some w.heap.size))).alloc (.map #[] 0)).heap[w.heap.size]? = _
    have := heap_alloc_new (w.setCell ⟨p, 129, none⟩ (.map (some w.heap.size))) (.map #[] 0)
    simpa using this) (key := .string (nm 3)) (v := .int .i32 3) trivial rfl
  simp only [Array.push_empty, Nat.zero_add] at hup
  have cX : (setO ((w.setCell ⟨p, 129, none⟩ (.map (some w.heap.size))).alloc (.map #[] 0)).drew w.heap.size (.map #[{ key := .string (nm 3), val := .int .i32 3, born := 0 }] 1)).cell? ⟨p, 130, none⟩ = some (.int .i32 3) := by
    rw [setO_cell _ _ _ _ hne]
    show ((w.setCell ⟨p, 129, none⟩ (.map (some w.heap.size))).alloc (.map #[] 0)).cell? ⟨p, 130, none⟩ = _
    rw [World.cell?_alloc_past _ _ _ (by simpa using hp), World.cell?_setCell_other _ _ _ _ (by simp)]
    exact h3
  have fX : (setO ((w.setCell ⟨p, 129, none⟩ (.map (some w.heap.size))).alloc (.map #[] 0)).drew w.heap.size (.map #[{ key := .string (nm 3), val := .int .i32 3, born := 0 }] 1)).frozen? ⟨p, 130, none⟩ = false := by
    rw [setO_frozen _ _ _ _ hne]
    show ((w.setCell ⟨p, 129, none⟩ (.map (some w.heap.size))).alloc (.map #[] 0)).frozen? ⟨p, 130, none⟩ = _
    rw [World.frozen?_alloc_past _ _ _ (by simpa using hp)]
    simpa using f3
  generalize nm 3 = q at *
  go_enter Yba.func13, Yba.ntmps13
  go_wp2_with fail
  go_region
  generalize hX : (setO ((w.setCell ⟨p, 129, none⟩ (.map (some w.heap.size))).alloc (.map #[] 0)).drew w.heap.size (.map #[{ key := .string q, val := .int .i32 3, born := 0 }] 1)) = X at *
  have HX := hid hX
  clear hX
  go_wp2
  go_ret2
  exact ⟨rfl, by rw [HX.out]⟩
end Go.Proofs.Ybulkedxc
