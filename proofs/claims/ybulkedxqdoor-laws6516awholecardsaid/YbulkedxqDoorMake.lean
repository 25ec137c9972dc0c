/-
  LawS6516AWhole: make and copy at the law's head.
-/
import Derived.Test.YbulkedxqDoorTag
import Derived.LaidEql
import Derived.LaidEqlPtr
import Derived.Lib.Builder
import Derived.Laws.IdiomCopy
import Derived.Laws.MakeOwn
namespace Go.Proofs.YbulkedxqDoor
open Go.RowKit

theorem below_setCells {B b : Nat} {w0 : World} : ∀ (vs : List Value) (o : Nat) (w : World), Below B w0 w → B ≤ b → Below B w0 (w.setCells b o vs)
  | [], _, _, h, _ => h
  | v :: r, o, w, h, hb => below_setCells r (o + 1) (w.setCell ⟨b, o, none⟩ v) (h.setCell (p := ⟨b, o, none⟩) hb v) hb
theorem size_setCells (b : Nat) : ∀ (vs : List Value) (o : Nat) (w : World), (w.setCells b o vs).heap.size = w.heap.size
  | [], _, _ => rfl
  | v :: r, o, w => by
    show ((w.setCell ⟨b, o, none⟩ v).setCells b (o + 1) r).heap.size = _
    rw [size_setCells b r]; simp [World.setCell]

theorem size5 : (Ybad.prog.info? 5).map (·.size) = some 1 := by kernel_rfl

/-- make([]byte, n): a new row of n zeros -/
theorem make_n (n : Nat) (hn : n ≤ 1048576) (w : World) : ∃ cs : Array Value, cs.size = n ∧ (Instr.makeSlice 22 (.int .i64 n) (.int .i64 n)).run Ybad.prog w = .ok (.slice (some ⟨w.heap.size, 0, none⟩) n n) (w.alloc (.cells cs 5)) := by
  have h := run_make (P := Ybad.prog) w 22 5 Ybad.t5 (.int .u8 0) Ybad.underlying22 (by kernel_rfl) (by kernel_rfl) .i64 .i64 n n (by omega) (by omega) (by
    have : Ybad.t5.bytes = 1 := by kernel_rfl
    rw [this]; omega) (by omega)
  refine ⟨_, ?_, by simpa using h⟩
  rw [size_madeCells]
  have : Ybad.t5.size = 1 := by kernel_rfl
  rw [this]; simp

/-- copy(bc, b): the row holds b's bytes; nothing old has turned -/
theorem copy_n (n g o c : Nat) (x : Nat → Int) (cs : Array Value) (hcs : cs.size = n) (w : World) (hg : g < w.heap.size) (hc : ∀ j, j < n → w.cell? ⟨g, o + j, none⟩ = some (.int .u8 (x j))) :
    ∃ W : World, (∀ ty, (Builtin.copy_ #[22, 22] ty #[.slice (some ⟨w.heap.size, 0, none⟩) n n, .slice (some ⟨g, o, none⟩) n c]).run Ybad.prog (w.alloc (.cells cs 5)) = .ok (goInt n) W) ∧
      Below w.heap.size w W ∧ W.heap.size = w.heap.size + 1 ∧ ∀ j, j < n → W.cell? ⟨w.heap.size, j, none⟩ = some (.int .u8 (x j)) := by
  have hl : ((List.range n).map fun j => Value.int .u8 (x j)).length = n := by simp
  have hcell : ∀ j, j < n → ((w.alloc (.cells cs 5)).cell? ⟨w.heap.size, 0 + j, none⟩).isSome = true := by
    intro j hj
    rw [World.cell?_alloc_at _ _ _ _ rfl, Nat.zero_add]
    simp [hcs, hj]
  have h := fun ty => run_copy_cells (P := Ybad.prog) (w.alloc (.cells cs 5)) 22 22 ty 5 w.heap.size 0 n n ⟨g, o, none⟩ n c ((List.range n).map fun j => Value.int .u8 (x j)) Ybad.underlying22 size5 (by rw [hl]; exact (Nat.min_self n).symm)
    (by
      intro j v hj
      have hlt : j < n := by
        rcases Nat.lt_or_ge j n with h | h
        · exact h
        · rw [List.getElem?_eq_none (by simpa using h)] at hj; cases hj
      have : v = .int .u8 (x j) := by
        rw [List.getElem?_eq_getElem (by simpa using hlt)] at hj
        simpa using hj.symm
      subst this
      rw [show (⟨g, o, none⟩ : Addr).add j = ⟨g, o + j, none⟩ from by simp [Addr.add]]
      exact (((Below.refl _ w).alloc (Nat.le_refl _) _).cell (p := ⟨g, o + j, none⟩) hg).trans (hc j hlt))
    (by intro j hj; exact hcell j (by rw [hl] at hj; exact hj))
    (by intro j hj; exact World.frozen?_alloc_at _ _ _ _ rfl)
    (by intro v hv; simp at hv; obtain ⟨j, _, rfl⟩ := hv; rfl)
  refine ⟨_, fun ty => by rw [h ty, hl], ?_, ?_, ?_⟩
  · exact below_setCells _ _ _ ((Below.refl _ w).alloc (Nat.le_refl _) _) (Nat.le_refl _)
  · rw [size_setCells]; simp
  · intro j hj
    have := World.cell?_setCells_in w.heap.size ((List.range n).map fun j => Value.int .u8 (x j)) 0 (w.alloc (.cells cs 5)) (by intro i hi; exact hcell i (by rw [hl] at hi; exact hi)) j (by rw [hl]; exact hj)
    rw [Nat.zero_add] at this
    rw [this]; simp
end Go.Proofs.YbulkedxqDoor
