/-
  LawS6515BWhole: the table's first slots; the long name; an item more.
-/
import Derived.Test.YbulkedxcNum
namespace Go.Proofs.Ybulkedxc
open Go.RowKit
attribute [local simp] setO_size setT_same

theorem info160 : (Yba.prog.info? 160).map (fun i => (i.zero, i.size, i.bytes)) = some (some (.agg #[.int .u64 0, .int .i32 0, .int .u8 0]), 3, 16) := by kernel_rfl
/-- make([]itemSlot, 64) -/
theorem make_slots (w : World) : ∃ zs : Array Value, zs.size = 192 ∧ (∀ i, i < 64 → zs[i * 3]? = some (.int .u64 0) ∧ zs[i * 3 + 1]? = some (.int .i32 0) ∧ zs[i * 3 + 2]? = some (.int .u8 0)) ∧
    (Instr.makeSlice 82 (.int .i64 64) (.int .i64 64)).run Yba.prog w = .ok (.slice (some ⟨w.heap.size, 0, none⟩) 64 64) (w.alloc (.cells zs 160)) := by
  obtain ⟨i0, hi, hz0, hz1, hz2⟩ := info_parts info160
  have h := run_make (P := Yba.prog) w 82 160 i0 (.agg #[.int .u64 0, .int .i32 0, .int .u8 0]) Yba.underlying82 hi hz0 .i64 .i64 64 64 (by omega) (by omega) (by rw [hz2]; omega) (by omega)
  rw [hz1] at h
  refine ⟨madeCells (Value.agg #[.int .u64 0, .int .i32 0, .int .u8 0]).cells 192, size_madeCells _ _, ?_, by simpa using h⟩
  intro i hi
  have hx : ∀ r, r < 3 → (madeCells (Value.agg #[.int .u64 0, .int .i32 0, .int .u8 0]).cells 192)[i * 3 + r]? = some ((#[.int .u64 0, .int .i32 0, .int .u8 0] : Array Value)[r]!) := by
    intro r hr
    unfold madeCells
    rw [Array.getElem?_map, Array.getElem?_range, if_pos (by omega)]
    have e : (i * 3 + r) % (Value.agg #[.int .u64 0, .int .i32 0, .int .u8 0]).cells.size = r := by
      show (i * 3 + r) % 3 = r
      omega
    simp only [Option.map_some, e]
    rfl
  exact ⟨hx 0 (by omega), hx 1 (by omega), hx 2 (by omega)⟩

set_option maxRecDepth 100000 in
set_option maxHeartbeats 1600000 in
theorem grow_first (p : Nat) (w : World) (hp : p < w.heap.size) (h0 : w.cell? ⟨p, 127, none⟩ = some (.slice none 0 0)) (f0 : w.frozen? ⟨p, 127, none⟩ = false) :
    Calls Yba.prog 21 #[.pointer (some ⟨p, 127, none⟩)] w fun e w' => e = .returned (.tuple #[]) ∧ ∃ zs : Array Value, zs.size = 192 ∧ (∀ i, i < 64 → zs[i * 3]? = some (.int .u64 0) ∧ zs[i * 3 + 1]? = some (.int .i32 0) ∧ zs[i * 3 + 2]? = some (.int .u8 0)) ∧ w' = (w.setCell ⟨p, 127, none⟩ (.slice (some ⟨w.heap.size, 0, none⟩) 64 64)).alloc (.cells zs 160) := by
  obtain ⟨zs, h1, h2, h3⟩ := make_slots w
  have HZ := hid h2
  clear h2
  have c0 : (w.alloc (.cells zs 160)).cell? ⟨p, 127, none⟩ = some (.slice none 0 0) := by rw [World.cell?_alloc_past _ _ _ hp]; exact h0
  have g0 : (w.alloc (.cells zs 160)).frozen? ⟨p, 127, none⟩ = false := by rw [World.frozen?_alloc_past _ _ _ hp]; exact f0
  go_enter Yba.func21, Yba.ntmps21
  go_wp2_with fail
  refine wp_loop_rounds 1 ?_
  rw [rounds_succ]
  go_wp2
  go_end0
  exact ⟨rfl, zs, h1, HZ.out, rfl⟩
/-- the world behind the numbering of a short name -/
def numbered (w : World) (p s j : Nat) : World :=
  ((((w.setCell ⟨s, sx j * 3, none⟩ (.int .u64 (120 + j))).setCell ⟨s, sx j * 3 + 1, none⟩ (.int .i32 (j + 1))).setCell ⟨s, sx j * 3 + 2, none⟩ (.int .u8 1)).setCell ⟨p, 128, none⟩ (.int .i64 (j + 1))).setCell ⟨p, 130, none⟩ (.int .i32 (j + 1))

set_option maxRecDepth 100000 in
set_option maxHeartbeats 1600000 in
theorem number_first (p : Nat) (w : World) (hp : p < w.heap.size) (h0 : w.cell? ⟨p, 127, none⟩ = some (.slice none 0 0)) (h1 : w.cell? ⟨p, 128, none⟩ = some (.int .i64 0)) (h3 : w.cell? ⟨p, 130, none⟩ = some (.int .i32 0))
    (f0 : w.frozen? ⟨p, 127, none⟩ = false) (f1 : w.frozen? ⟨p, 128, none⟩ = false) (f3 : w.frozen? ⟨p, 130, none⟩ = false) :
    Calls Yba.prog 13 #[.pointer (some ⟨p, 127, none⟩), .string (nm 0)] w fun e w' => e = .returned (.tuple #[.int .i32 0, .bool true]) ∧ ∃ (m m' : Nat) (zs : Array Value), zs.size = 192 ∧ (∀ i, i < 64 → zs[i * 3]? = some (.int .u64 0) ∧ zs[i * 3 + 1]? = some (.int .i32 0) ∧ zs[i * 3 + 2]? = some (.int .u8 0)) ∧
      w' = numbered ((((w.drewN m).setCell ⟨p, 127, none⟩ (.slice (some ⟨w.heap.size, 0, none⟩) 64 64)).alloc (.cells zs 160)).drewN m') p w.heap.size 0 := by
  have hsz : (nm 0).size = 1 := rfl
  have hne : ¬ p = w.heap.size := by omega
  have hne' : ¬ w.heap.size = p := by omega
  have hw1 : IntKind.i32.wrap (0 + 1) = 1 := rfl
  have hw2 : IntKind.u8.wrap 1 = 1 := rfl
  go_enter Yba.func13, Yba.ntmps13
  go_wp2_with fail
  go_quiet (fail)
  have hg := grow_first p (w.drewN nq) (by simpa using hp) (by simpa using h0) (by simpa using f0)
  have HG := hid hg
  clear hg
  go_upto_region 12 with (go_at_call 21; refine HG.out.mono ?_; rintro e W1 ⟨rfl, zs, hz, hzs, hW1⟩; have HW := hid hW1; clear hW1)
  have e0 : W1.cell? ⟨p, 127, none⟩ = some (.slice (some ⟨w.heap.size, 0, none⟩) 64 64) := by
    rw [HW.out, World.cell?_alloc_past _ _ _ (by simpa using hp)]
    have := World.cell?_setCell_same (w.drewN nq) ⟨p, 127, none⟩ (.slice (some ⟨w.heap.size, 0, none⟩) 64 64) (show (w.drewN nq).cell? ⟨p, 127, none⟩ = some (.slice none 0 0) by simpa using h0)
    simpa using this
  have e1 : W1.cell? ⟨p, 128, none⟩ = some (.int .i64 0) := by
    rw [HW.out, World.cell?_alloc_past _ _ _ (by simpa using hp), World.cell?_setCell_other _ _ _ _ (by simp)]
    simpa using h1
  have e3 : W1.cell? ⟨p, 130, none⟩ = some (.int .i32 0) := by
    rw [HW.out, World.cell?_alloc_past _ _ _ (by simpa using hp), World.cell?_setCell_other _ _ _ _ (by simp)]
    simpa using h3
  have g1 : W1.frozen? ⟨p, 128, none⟩ = false := by
    rw [HW.out, World.frozen?_alloc_past _ _ _ (by simpa using hp)]
    simpa using f1
  have g3 : W1.frozen? ⟨p, 130, none⟩ = false := by
    rw [HW.out, World.frozen?_alloc_past _ _ _ (by simpa using hp)]
    simpa using f3
  have hb : W1.heap[w.heap.size]? = some (.cells zs 160 (0, 0)) := by
    rw [HW.out]
    have := heap_alloc_new ((w.drewN nq).setCell ⟨p, 127, none⟩ (.slice (some ⟨(w.drewN nq).heap.size, 0, none⟩) 64 64)) (.cells zs 160)
    simpa using this
  have cz : ∀ k, W1.cell? ⟨w.heap.size, k, none⟩ = zs[k]? := fun k => by simp [World.cell?, hb]
  have fz : ∀ k, W1.frozen? ⟨w.heap.size, k, none⟩ = false := fun k => by simp [World.frozen?, hb]
  have c0 : W1.cell? ⟨w.heap.size, 153, none⟩ = _ := (cz (51 * 3)).trans (hzs 51 (by omega)).1
  have c1 : W1.cell? ⟨w.heap.size, 154, none⟩ = _ := (cz (51 * 3 + 1)).trans (hzs 51 (by omega)).2.1
  have c2 : W1.cell? ⟨w.heap.size, 155, none⟩ = _ := (cz (51 * 3 + 2)).trans (hzs 51 (by omega)).2.2
  have k0 := fz 153
  have k1 := fz 154
  have k2 := fz 155
  have HZ := hid hzs
  clear hzs hb cz fz HG
  have hmiss : Calls Yba.prog 22 #[.pointer (some ⟨p, 127, none⟩), .string (nm 0)] W1 fun e w' => e = .returned (.tuple #[.pointer (some ⟨w.heap.size, 153, none⟩), .bool false]) ∧ w' = W1 := slot_miss 0 (by omega) p 127 w.heap.size 64 W1 e0 c1
  have hpk : ∀ w, Calls Yba.prog 23 #[.string (nm 0)] w fun e w' => e = .returned (.int .u64 120) ∧ w' = w := packed_nm 0 (by omega)
  have HM := hid hmiss
  have HP := hid hpk
  clear hmiss hpk
  go_upto_region 14 with (go_at_call 22; refine HM.out.mono ?_; rintro e w' ⟨rfl, rfl⟩)
  go_region_held3 (fun w' => w'.cell? ⟨p, 130, none⟩ = some (.int .i32 0))
    (first | go_keep | (simp [*]; done))
    ((go_at_call 23; refine (HP.out _).mono ?_; rintro e w' ⟨rfl, rfl⟩))
  go_wp2
  go_ret2
  refine ⟨rfl, nq, 1, zs, hz, HZ.out, ?_⟩
  have hW : w' = ((w.drewN nq).setCell ⟨p, 127, none⟩ (.slice (some ⟨w.heap.size, 0, none⟩) 64 64)).alloc (.cells zs 160) := HW.out
  have e : ∀ X : World, numbered (X.drewN 1) p w.heap.size 0 = (numbered X p w.heap.size 0).drew := fun X => rfl
  rw [← hW, e]
  rfl
end Go.Proofs.Ybulkedxc
