/-
  LawS6515BWhole: end, walked.
-/
import Derived.Test.YbulkedxcSet
namespace Go.Proofs.Ybulkedxc
open Go.RowKit
attribute [local simp] setO_size setT_same
set_option linter.unnecessarySimpa false
variable {A : Role → Nat} {D : Role → Prop} {B : Nat} {W : World}

/-- the readers or writers, those of a mask one fewer -/
def decr (mk : Nat) (f : Nat → Int) (j : Nat) : Int := cond (decide (j < 4) && mk.testBit j) (wrap64 (f j - 1)) (f j)
/-- the same while the range goes on -/
def decrS (mk : Nat) (seen : Array Nat) (f : Nat → Int) (j : Nat) : Int := cond (hit mk seen j) (wrap64 (f j - 1)) (f j)
theorem decrS_empty (mk : Nat) (f : Nat → Int) : decrS mk #[] f = f := by funext j; simp [decrS, hit_empty]
theorem decrS_full {mk : Nat} {seen : Array Nat} (h : (leftOf (setEnts mk) seen).size = 0) (f : Nat → Int) : decrS mk seen f = decr mk f := by funext j; simp only [decrS, decr, hit_full h]

theorem decr_nil {mk : Nat} (h : bitsOf mk = []) (f : Nat → Int) : decr mk f = f := by
  funext j
  have hb : (decide (j < 4) && mk.testBit j) = false := by
    rw [Bool.eq_false_iff]
    intro e
    simp at e
    have := (bits_mem mk j).2 e
    rw [h] at this
    simp at this
  simp only [decr, hb, cond_false]

theorem setCell_alloc {w : World} {b k : Nat} (o : Obj) (v : Value) (h : b < w.heap.size) : (w.alloc o).setCell ⟨b, k, none⟩ v = (w.setCell ⟨b, k, none⟩ v).alloc o := by
  have hh : ((w.alloc o).setCell ⟨b, k, none⟩ v).heap = ((w.setCell ⟨b, k, none⟩ v).alloc o).heap := by
    apply Array.ext_getElem?
    intro j
    show ((w.heap.push o).modify b _)[j]? = ((w.heap.modify b _).push o)[j]?
    rw [Array.getElem?_modify, Array.getElem?_push, Array.getElem?_push, Array.getElem?_modify, Array.size_modify]
    by_cases hj : j = w.heap.size
    · subst hj
      simp [Nat.ne_of_lt h]
    · simp [hj]
  calc (w.alloc o).setCell ⟨b, k, none⟩ v = { w with heap := ((w.alloc o).setCell ⟨b, k, none⟩ v).heap } := rfl
    _ = { w with heap := ((w.setCell ⟨b, k, none⟩ v).alloc o).heap } := by rw [hh]
    _ = (w.setCell ⟨b, k, none⟩ v).alloc o := rfl

theorem tabAt_of {E : Env} {S : Sys} {o : Role → Option Obj} (h : RepF A (mem A E S) o D B W) (ho : o .long = obj A E S .long) : TabAt W (A .st) (A .slots) E.scap (A .long) := by
  refine ⟨(h.cell .st 127 _ (by simp [mem, stC])).2.1, (h.cell .st 129 _ (by simp [mem, stC])).2.1, ?_, ?_, ?_, (h.obj .long _ (by rw [ho]; rfl)).2⟩
  · intro j hj
    match j, hj with
    | 0, _ => exact (h.cell .slots 153 (.int .u64 120) rfl).2.1
    | 1, _ => exact (h.cell .slots 135 (.int .u64 121) rfl).2.1
    | 2, _ => exact (h.cell .slots 114 (.int .u64 122) rfl).2.1
  · intro j hj
    match j, hj with
    | 0, _ => exact (h.cell .slots 154 (.int .i32 1) rfl).2.1
    | 1, _ => exact (h.cell .slots 136 (.int .i32 2) rfl).2.1
    | 2, _ => exact (h.cell .slots 115 (.int .i32 3) rfl).2.1
  · intro j hj
    match j, hj with
    | 0, _ => exact (h.cell .slots 155 (.int .u8 1) rfl).2.1
    | 1, _ => exact (h.cell .slots 137 (.int .u8 1) rfl).2.1
    | 2, _ => exact (h.cell .slots 116 (.int .u8 1) rfl).2.1
theorem TabAt.alloc {w : World} {p s c l : Nat} (h : TabAt w p s c l) (hp : p < w.heap.size) (hs : s < w.heap.size) (hl : l < w.heap.size) (x : Obj) : TabAt (w.alloc x) p s c l := by
  refine ⟨?_, ?_, ?_, ?_, ?_, ?_⟩
  · rw [World.cell?_alloc_past _ _ _ hp]; exact h.h0
  · rw [World.cell?_alloc_past _ _ _ hp]; exact h.hl
  · intro j hj; rw [World.cell?_alloc_past _ _ _ hs]; exact h.hn j hj
  · intro j hj; rw [World.cell?_alloc_past _ _ _ hs]; exact h.h1 j hj
  · intro j hj; rw [World.cell?_alloc_past _ _ _ hs]; exact h.h2 j hj
  · rw [heap_alloc_old _ _ hl]; exact h.hm

/-- one reader fewer -/
theorem mem_rdr (E : Env) (S : Sys) (mk b j0 : Nat) (seen : Array Nat) (f : Nat → Int) (hb : (bitsOf mk)[b]? = some j0) :
    ∀ r k v, mem A E { S with rdr := decrS mk (seen.push b) f } r k = some v → updm (mem A E { S with rdr := decrS mk seen f }) .xs (j0 * 3 + 1) (.int .i64 (wrap64 (f j0 - 1))) r k = some v := by
  intro r k v h
  have hj : j0 < 4 := ((bits_mem mk j0).1 (List.mem_of_getElem? hb)).1
  cases r using Role.split with
  | xs =>
    by_cases hk : k = j0 * 3 + 1
    · subst hk
      have e1 : (j0 * 3 + 1) / 3 = j0 := by omega
      have e2 : (j0 * 3 + 1) % 3 = 1 := by omega
      have e3 : decrS mk (seen.push b) f j0 = wrap64 (f j0 - 1) := by simp [decrS, hit_push hb]
      simp only [mem, e1, e2, e3] at h
      simp only [updm, and_self, if_true]
      rw [if_pos (by omega)] at h
      simpa using h
    · simp only [mem] at h
      simp only [updm, hk, and_false, if_false, mem]
      rw [← h]
      congr 2
      split
      · rfl
      · split
        · rename_i h1 h2
          have hne : k / 3 ≠ j0 := by omega
          have hbf : (k / 3 == j0) = false := by simp [hne]
          have : decrS mk (seen.push b) f (k / 3) = decrS mk seen f (k / 3) := by simp only [decrS, hit_push hb, hbf, Bool.or_false]
          rw [this]
        · rfl
  | _ => simpa [updm, mem, stC, uC, wC, aC] using h
/-- one writer fewer -/
theorem mem_wtr (E : Env) (S : Sys) (mk b j0 : Nat) (seen : Array Nat) (f : Nat → Int) (hb : (bitsOf mk)[b]? = some j0) :
    ∀ r k v, mem A E { S with wtr := decrS mk (seen.push b) f } r k = some v → updm (mem A E { S with wtr := decrS mk seen f }) .xs (j0 * 3 + 2) (.int .i64 (wrap64 (f j0 - 1))) r k = some v := by
  intro r k v h
  have hj : j0 < 4 := ((bits_mem mk j0).1 (List.mem_of_getElem? hb)).1
  cases r using Role.split with
  | xs =>
    by_cases hk : k = j0 * 3 + 2
    · subst hk
      have e1 : (j0 * 3 + 2) / 3 = j0 := by omega
      have e2 : (j0 * 3 + 2) % 3 = 2 := by omega
      have e3 : decrS mk (seen.push b) f j0 = wrap64 (f j0 - 1) := by simp [decrS, hit_push hb]
      simp only [mem, e1, e2, e3] at h
      simp only [updm, and_self, if_true]
      rw [if_pos (by omega)] at h
      simpa using h
    · simp only [mem] at h
      simp only [updm, hk, and_false, if_false, mem]
      rw [← h]
      congr 2
      split
      · rfl
      · split
        · rfl
        · rename_i h1 h2
          have hne : k / 3 ≠ j0 := by omega
          have hbf : (k / 3 == j0) = false := by simp [hne]
          have : decrS mk (seen.push b) f (k / 3) = decrS mk seen f (k / 3) := by simp only [decrS, hit_push hb, hbf, Bool.or_false]
          rw [this]
  | _ => simpa [updm, mem, stC, uC, wC, aC] using h

/-- the transaction marked and out of the live ones -/
def ended1 (S : Sys) (i : Nat) : Sys := { S with en := setT S.en i }
/-- the state behind end -/
def ended (E : Env) (S : Sys) (i : Nat) : Sys := { ended1 S i with rdr := decr (E.sp i).rd S.rdr, wtr := decr (E.sp i).wr S.wtr }
end Go.Proofs.Ybulkedxc
