/-
  LawS6519CWhole: Replacer.build: its facts.
-/
import Derived.Test.YbulkedzgRep
import Derived.Deep.WholeRow
import Derived.Laws.Tables
import Derived.Lib.ConvBytes
namespace Go.Proofs.Ybulkedzg
open Go.RowKit

theorem zero61 : ∃ cs : Array Value, cs.size = 257 ∧ (Yba.prog.info? 61).map (fun i => (i.zero, i.size)) = some (some (.agg cs), 257) :=
  ⟨Array.replicate 257 (.slice none 0 0), by simp, by kernel_rfl⟩
theorem built61 (t : Nat) : ∃ cs : Array Value, cs.size = 257 ∧ (∀ i, i < 256 → cs[i]? = some (.slice none 0 0)) ∧ cs[256]? = some (.slice (some ⟨t, 0, none⟩) 0 3) ∧ cs.all (·.oneCell') = true ∧
    Yba.prog.built 61 [(1, .slice (some ⟨t, 0, none⟩) 0 3)] = some cs := by
  refine ⟨(Array.replicate 256 (.slice none 0 0)).push (.slice (some ⟨t, 0, none⟩) 0 3), by simp, ?_, ?_, ?_, by kernel_rfl⟩
  · intro i hi
    rw [Array.getElem?_push_lt (by simpa using hi)]
    simp
  · rw [Array.getElem?_push]
    simp
  · rw [Array.all_eq_true]
    intro i hi
    rw [Array.getElem_push]
    split
    · simp [Value.oneCell']
    · rfl

theorem info9 : (Yba.prog.info? 9).map (fun i => (i.zero, i.size, i.bytes)) = some (some (.string ⟨#[]⟩), 1, 16) := by kernel_rfl
/-- the table of the first k special bytes -/
def tsOf (k : Nat) : Array Value := ((List.range 3).map fun j => if j < k then Value.string ⟨#[tb j]⟩ else .string ⟨#[]⟩).toArray
/-- make([]string, 0, 3) -/
theorem make3 (w : World) : (Instr.makeSlice 27 (.int .i64 0) (.int .i64 3)).run Yba.prog w = .ok (.slice (some ⟨w.heap.size, 0, none⟩) 0 3) (w.alloc (.cells (tsOf 0) 9)) := by
  obtain ⟨i0, hi, hz0, hz1, hz2⟩ := info_parts info9
  have h := run_make (P := Yba.prog) w 27 9 i0 (.string ⟨#[]⟩) Yba.underlying27 hi hz0 .i64 .i64 0 3 (by omega) (by omega) (by rw [hz2]; omega) (by omega)
  have e : madeCells (Value.string ⟨#[]⟩).cells 3 = tsOf 0 := by kernel_rfl
  rw [hz1, show Int.toNat 3 * 1 = 3 from rfl, e] at h
  simpa using h

/-- what the k-th special byte becomes, its second byte -/
def xb (k : Nat) : UInt8 := if k = 0 then 110 else if k = 1 then 34 else 92
/-- the state behind k rounds of build's last loop -/
structure St (W0 W : World) (k : Nat) : Prop where
  bel : Below W0.heap.size W0 W
  size : W0.heap.size + 2 ≤ W.heap.size
  tab : W.heap[W0.heap.size]? = some (.cells (tsOf k) 9 (0, 0))
  row : ∃ cs : Array Value, W.heap[W0.heap.size + 1]? = some (.cells cs 61 (0, 0)) ∧ cs.size = 257 ∧ cs[256]? = some (.slice (some ⟨W0.heap.size, 0, none⟩) k 3) ∧
    (∀ i, i < 256 → (∀ j, j < k → i ≠ (tb j).toNat) → cs[i]? = some (.slice none 0 0)) ∧
    ∀ j, j < k → ∃ b c, W0.heap.size + 2 ≤ b ∧ b < W.heap.size ∧ cs[(tb j).toNat]? = some (.slice (some ⟨b, 0, none⟩) 2 c) ∧ W.cell? ⟨b, 0, none⟩ = some (.int .u8 92) ∧ W.cell? ⟨b, 1, none⟩ = some (.int .u8 ((xb j).toNat : Int))

theorem tb_inj {i j : Nat} (hi : i < 3) (hj : j < 3) (h : i ≠ j) : (tb i).toNat ≠ (tb j).toNat := by
  match i, j, hi, hj with
  | 0, 0, _, _ => exact absurd rfl h
  | 0, 1, _, _ => decide
  | 0, 2, _, _ => decide
  | 1, 0, _, _ => decide
  | 1, 1, _, _ => exact absurd rfl h
  | 1, 2, _, _ => decide
  | 2, 0, _, _ => decide
  | 2, 1, _, _ => decide
  | 2, 2, _, _ => exact absurd rfl h

theorem ts_next (k : Nat) (hk : k < 3) : ((tsOf k).toList.take (k * 1) ++ [Value.string ⟨#[tb k]⟩] ++ (tsOf k).toList.drop (k * 1 + 1)).toArray = tsOf (k + 1) := by
  match k, hk with
  | 0, _ => rfl
  | 1, _ => rfl
  | 2, _ => rfl

theorem cell_of_heap {W : World} {g i : Nat} {cs : Array Value} {t : TypeId} {f : Nat × Nat} (h : W.heap[g]? = some (.cells cs t f)) : W.cell? ⟨g, i, none⟩ = cs[i]? := by
  simp [World.cell?, h]
theorem frozen_of_heap {W : World} {g i : Nat} {cs : Array Value} {t : TypeId} (h : W.heap[g]? = some (.cells cs t (0, 0))) : W.frozen? ⟨g, i, none⟩ = false := by
  simp [World.frozen?, h]
theorem heap_setCell {W : World} {g i : Nat} {cs : Array Value} {t : TypeId} {f : Nat × Nat} (v : Value) (h : W.heap[g]? = some (.cells cs t f)) : (W.setCell ⟨g, i, none⟩ v).heap[g]? = some (.cells (cs.setIfInBounds i v) t f) := by
  rw [setCell_eq_setRow W g i cs t f v h]
  exact setRow_heap W g cs _ t f h
theorem heap_setCell_ne {W : World} {g i k : Nat} (v : Value) (hk : k ≠ g) : (W.setCell ⟨g, i, none⟩ v).heap[k]? = W.heap[k]? := by
  simp [World.setCell, Array.getElem?_modify, Ne.symm hk]

/-- the i-th round's byte: its facts for the walk, and the state behind it -/
theorem round_facts {W0 W : World} (k : Nat) (hk : k < 3) (o x : UInt8) (oN : Nat) (hoN : o.toNat = oN) (ho : tb k = o) (hx : xb k = x) (hS : St W0 W k) :
    ∃ Wc We cap, W.cell? ⟨W0.heap.size + 1, oN, none⟩ = some (.slice none 0 0) ∧
      W.cell? ⟨W0.heap.size + 1, 256, none⟩ = some (.slice (some ⟨W0.heap.size, 0, none⟩) k 3) ∧
      (convert 26 9 (.slice (some ⟨W.heap.size, 0, none⟩) 1 1)).run Yba.prog (W.alloc (.cells #[.int .u8 (oN : Int)] 5)) = .ok (.string ⟨#[o]⟩) (W.alloc (.cells #[.int .u8 (oN : Int)] 5)) ∧
      (∀ ty, (Builtin.append_ #[27, 27] ty #[.slice (some ⟨W0.heap.size, 0, none⟩) k 3, .slice (some ⟨W.heap.size + 1, 0, none⟩) 1 1]).run Yba.prog ((W.alloc (.cells #[.int .u8 (oN : Int)] 5)).alloc (.cells #[.string ⟨#[o]⟩] 9)) = .ok (.slice (some ⟨W0.heap.size, 0, none⟩) (k + 1) 3) Wc) ∧
      Wc.cell? ⟨W0.heap.size + 1, 256, none⟩ = some (.slice (some ⟨W0.heap.size, 0, none⟩) k 3) ∧ Wc.frozen? ⟨W0.heap.size + 1, 256, none⟩ = false ∧
      (convert 9 26 (.string ⟨#[92, x]⟩)).run Yba.prog (Wc.setCell ⟨W0.heap.size + 1, 256, none⟩ (.slice (some ⟨W0.heap.size, 0, none⟩) (k + 1) 3)) = .ok (.slice (some ⟨W.heap.size + 2, 0, none⟩) 2 cap) We ∧
      We.cell? ⟨W0.heap.size + 1, oN, none⟩ = some (.slice none 0 0) ∧ We.frozen? ⟨W0.heap.size + 1, oN, none⟩ = false ∧
      St W0 (We.setCell ⟨W0.heap.size + 1, oN, none⟩ (.slice (some ⟨W.heap.size + 2, 0, none⟩) 2 cap)) (k + 1) := by
  obtain ⟨i0, hi, hz0, hz1, hz2⟩ := info_parts info9
  obtain ⟨cs, hR, hcs, h256, hno, htwo⟩ := hS.row
  have hT := hS.tab
  have hsz := hS.size
  have hoB : oN < 256 := by rw [← hoN]; exact o.toNat_lt
  have hfresh : ∀ j, j < k → oN ≠ (tb j).toNat := by
    intro j hj
    rw [← hoN, ← ho]
    exact tb_inj hk (by omega) (by omega)
  -- the worlds
  obtain ⟨Wa, hWa⟩ : ∃ Z, Z = W.alloc (.cells #[.int .u8 (oN : Int)] 5) := ⟨_, rfl⟩
  have sa : Wa.heap.size = W.heap.size + 1 := by rw [hWa]; simp
  have oa : ∀ j, j < W.heap.size → Wa.heap[j]? = W.heap[j]? := by intro j hj; rw [hWa]; exact heap_alloc_old W _ hj
  obtain ⟨Wb, hWb⟩ : ∃ Z, Z = Wa.alloc (.cells #[.string ⟨#[o]⟩] 9) := ⟨_, rfl⟩
  have sb : Wb.heap.size = W.heap.size + 2 := by rw [hWb]; simp [sa]
  have ob : ∀ j, j < W.heap.size → Wb.heap[j]? = W.heap[j]? := by intro j hj; rw [hWb, heap_alloc_old Wa _ (by omega : j < _)]; exact oa j hj
  have Tb : Wb.heap[W0.heap.size]? = some (.cells (tsOf k) 9 (0, 0)) := by rw [ob _ (by omega)]; exact hT
  have Rb : Wb.heap[W0.heap.size + 1]? = some (.cells cs 61 (0, 0)) := by rw [ob _ (by omega)]; exact hR
  have hap := fun ty => run_append_room (P := Yba.prog) Wb 27 ty 9 i0 Yba.underlying27 hi W0.heap.size k 3 (tsOf k) Tb ⟨W.heap.size + 1, 0, none⟩ 1 1 [.string ⟨#[o]⟩] (by rw [hz1]; rfl)
    (by
      intro j u hj
      match j, hj with
      | 0, hj =>
        simp at hj; subst hj
        rw [hWb, ← sa]; simp [Addr.add])
    (by simp [Value.oneCell']) (by omega) (by rw [hz1]; simp [tsOf]; omega)
  rw [hz1, show [Value.string ⟨#[o]⟩].length = 1 from rfl, ← ho, ts_next k hk] at hap
  obtain ⟨Wc, hWc⟩ : ∃ Z, Z = Wb.setRow W0.heap.size (tsOf (k + 1)) := ⟨_, rfl⟩
  rw [← hWc] at hap
  have sc : Wc.heap.size = W.heap.size + 2 := by rw [hWc]; simp [sb]
  have Tc : Wc.heap[W0.heap.size]? = some (.cells (tsOf (k + 1)) 9 (0, 0)) := by rw [hWc]; exact setRow_heap Wb _ _ _ _ _ Tb
  have oc : ∀ j, j ≠ W0.heap.size → Wc.heap[j]? = Wb.heap[j]? := by intro j hj; rw [hWc]; exact setRow_other Wb _ j _ hj
  have Rc : Wc.heap[W0.heap.size + 1]? = some (.cells cs 61 (0, 0)) := by rw [oc _ (by omega)]; exact Rb
  obtain ⟨Wd, hWd⟩ : ∃ Z, Z = Wc.setCell ⟨W0.heap.size + 1, 256, none⟩ (.slice (some ⟨W0.heap.size, 0, none⟩) (k + 1) 3) := ⟨_, rfl⟩
  have sd : Wd.heap.size = W.heap.size + 2 := by rw [hWd]; simp [sc]
  have Rd := heap_setCell (i := 256) (.slice (some ⟨W0.heap.size, 0, none⟩) (k + 1) 3) Rc
  rw [← hWd] at Rd
  have od : ∀ j, j ≠ W0.heap.size + 1 → Wd.heap[j]? = Wc.heap[j]? := by intro j hj; rw [hWd]; exact heap_setCell_ne _ hj
  have hcv := Lib.run_convert_string_bytes (P := Yba.prog) Wd 9 26 5 ⟨#[92, x]⟩ Yba.underlying9 Yba.underlying26 Yba.underlying5
  obtain ⟨We, hWe⟩ : ∃ Z, Z = Lib.bytesWorld Wd 5 ⟨#[92, x]⟩ := ⟨_, rfl⟩
  have se : We.heap.size = W.heap.size + 3 := by rw [hWe, Lib.bytesWorld_size, sd]
  have oe : ∀ j, j < W.heap.size + 2 → We.heap[j]? = Wd.heap[j]? := by intro j hj; rw [hWe]; exact Lib.bytesWorld_at_old Wd 5 _ j (by omega)
  have Re : We.heap[W0.heap.size + 1]? = some (.cells (cs.setIfInBounds 256 (.slice (some ⟨W0.heap.size, 0, none⟩) (k + 1) 3)) 61 (0, 0)) := by rw [oe _ (by omega)]; exact Rd
  have e0 : We.cell? ⟨W.heap.size + 2, 0, none⟩ = some (.int .u8 92) := by rw [hWe, ← sd, Lib.bytesWorld_cell Wd 5 ⟨#[92, x]⟩ 0 (show 0 < 2 from by decide)]; rfl
  have e1 : We.cell? ⟨W.heap.size + 2, 1, none⟩ = some (.int .u8 (x.toNat : Int)) := by rw [hWe, ← sd, Lib.bytesWorld_cell Wd 5 ⟨#[92, x]⟩ 1 (show 1 < 2 from by decide)]; rfl
  rw [← hWe, sd] at hcv
  have bd : Below W0.heap.size W0 We := by
    refine ⟨?_, ?_, ?_, by omega, ?_⟩
    · rw [hWe]; show Wd.os = _; rw [hWd]; show Wc.os = _; rw [hWc, hWb, hWa]; exact hS.bel.os
    · rw [hWe]; show Wd.tape = _; rw [hWd]; show Wc.tape = _; rw [hWc, hWb, hWa]; exact hS.bel.tape
    · rw [hWe]; show Wd.output = _; rw [hWd]; show Wc.output = _; rw [hWc, hWb, hWa]; exact hS.bel.output
    · intro j hj
      rw [oe j (by omega), od j (by omega), oc j (by omega), ob j (by omega)]
      exact hS.bel.block j hj
  refine ⟨Wc, We, grownCap Wd 2 0 5, ?_, ?_, ?_, ?_, ?_, frozen_of_heap Rc, ?_, ?_, frozen_of_heap Re, ?_⟩
  · rw [cell_of_heap hR]; exact hno oN hoB hfresh
  · rw [cell_of_heap hR]; exact h256
  · refine conv_bytes _ _ 1 1 [o] rfl ?_
    intro j v hj
    match j, hj with
    | 0, hj =>
      simp [vals] at hj; subst hj
      simp [hoN]
  · intro ty
    rw [← hWa, ← hWb]; exact hap ty
  · rw [cell_of_heap Rc]; exact h256
  · rw [← hWd]; exact hcv
  · rw [cell_of_heap Re, Array.getElem?_setIfInBounds_ne (by omega)]; exact hno oN hoB hfresh
  · have Rf := heap_setCell (i := oN) (.slice (some ⟨W.heap.size + 2, 0, none⟩) 2 (grownCap Wd 2 0 5)) Re
    have og : ∀ j, j ≠ W0.heap.size + 1 → (We.setCell ⟨W0.heap.size + 1, oN, none⟩ (.slice (some ⟨W.heap.size + 2, 0, none⟩) 2 (grownCap Wd 2 0 5))).heap[j]? = We.heap[j]? := fun j hj => heap_setCell_ne _ hj
    refine ⟨?_, by simp [se]; omega, ?_, ⟨_, Rf, by simp [hcs], ?_, ?_, ?_⟩⟩
    · refine ⟨bd.os, bd.tape, bd.output, by simp; omega, ?_⟩
      intro j hj
      exact (og j (by omega)).trans (bd.block j hj)
    · rw [og _ (by omega), oe _ (by omega), od _ (by omega)]; exact Tc
    · rw [Array.getElem?_setIfInBounds_ne (by omega), Array.getElem?_setIfInBounds_self_of_lt (by omega)]
    · intro i hi hj
      have h1 : oN ≠ i := by have := hj k (by omega); rw [ho, hoN] at this; omega
      rw [Array.getElem?_setIfInBounds_ne h1, Array.getElem?_setIfInBounds_ne (by omega)]
      exact hno i hi (fun j hjk => hj j (by omega))
    · intro j hj
      by_cases hjk : j = k
      · subst hjk
        refine ⟨W.heap.size + 2, grownCap Wd 2 0 5, by omega, by simp [se], ?_, ?_, ?_⟩
        · rw [ho, hoN, Array.getElem?_setIfInBounds_self_of_lt (by simp; omega)]
        · rw [World.cell?, og _ (by simp; omega)]; exact e0
        · rw [World.cell?, og _ (by simp; omega), hx]; exact e1
      · obtain ⟨b, c, hb1, hb2, hb3, hb4, hb5⟩ := htwo j (by omega)
        have hne : oN ≠ (tb j).toNat := hfresh j (by omega)
        have hlt := (tb j).toNat_lt
        have hh : ∀ i, (We.setCell ⟨W0.heap.size + 1, oN, none⟩ (.slice (some ⟨W.heap.size + 2, 0, none⟩) 2 (grownCap Wd 2 0 5))).cell? ⟨b, i, none⟩ = W.cell? ⟨b, i, none⟩ := by
          intro i
          simp only [World.cell?]
          rw [og b (by omega), oe b (by omega), od b (by omega), oc b (by omega), ob b (by omega)]
        refine ⟨b, c, hb1, by simp [se]; omega, ?_, ?_, ?_⟩
        · rw [Array.getElem?_setIfInBounds_ne hne, Array.getElem?_setIfInBounds_ne (by omega)]; exact hb3
        · exact (hh 0).trans hb4
        · exact (hh 1).trans hb5

/-- the same, its numbers as the walk spells them -/
theorem round_facts' {W0 W : World} (k k1 : Nat) (hk1 : k + 1 = k1) (hk : k < 3) (o x : UInt8) (oN : Nat) (oI : Int) (hoI : (oN : Int) = oI) (hoN : o.toNat = oN) (ho : tb k = o) (hx : xb k = x) (hS : St W0 W k) :
    ∃ Wc We cap, W.cell? ⟨W0.heap.size + 1, oN, none⟩ = some (.slice none 0 0) ∧
      W.cell? ⟨W0.heap.size + 1, 256, none⟩ = some (.slice (some ⟨W0.heap.size, 0, none⟩) k 3) ∧
      (convert 26 9 (.slice (some ⟨W.heap.size, 0, none⟩) 1 1)).run Yba.prog (W.alloc (.cells #[.int .u8 oI] 5)) = .ok (.string ⟨#[o]⟩) (W.alloc (.cells #[.int .u8 oI] 5)) ∧
      (∀ ty, (Builtin.append_ #[27, 27] ty #[.slice (some ⟨W0.heap.size, 0, none⟩) k 3, .slice (some ⟨W.heap.size + 1, 0, none⟩) 1 1]).run Yba.prog ((W.alloc (.cells #[.int .u8 oI] 5)).alloc (.cells #[.string ⟨#[o]⟩] 9)) = .ok (.slice (some ⟨W0.heap.size, 0, none⟩) k1 3) Wc) ∧
      Wc.cell? ⟨W0.heap.size + 1, 256, none⟩ = some (.slice (some ⟨W0.heap.size, 0, none⟩) k 3) ∧ Wc.frozen? ⟨W0.heap.size + 1, 256, none⟩ = false ∧
      (convert 9 26 (.string ⟨#[92, x]⟩)).run Yba.prog (Wc.setCell ⟨W0.heap.size + 1, 256, none⟩ (.slice (some ⟨W0.heap.size, 0, none⟩) k1 3)) = .ok (.slice (some ⟨W.heap.size + 2, 0, none⟩) 2 cap) We ∧
      We.cell? ⟨W0.heap.size + 1, oN, none⟩ = some (.slice none 0 0) ∧ We.frozen? ⟨W0.heap.size + 1, oN, none⟩ = false ∧
      St W0 (We.setCell ⟨W0.heap.size + 1, oN, none⟩ (.slice (some ⟨W.heap.size + 2, 0, none⟩) 2 cap)) k1 := by
  subst hk1
  subst hoI
  exact round_facts k hk o x oN hoN ho hx hS

/-- behind three rounds the replacer is built -/
theorem St.rep {W0 W : World} (h : St W0 W 3) : RepAt W W0.heap.size (W0.heap.size + 1) := by
  obtain ⟨cs, hR, hcs, h256, hno, htwo⟩ := h.row
  have hs := h.size
  have two : ∀ j, j < 3 → Two W W0.heap.size (W0.heap.size + 1) (tb j).toNat ((xb j).toNat : Int) := by
    intro j hj
    obtain ⟨b, c, h1, h2, h3, h4, h5⟩ := htwo j hj
    exact ⟨b, c, by omega, h2, by rw [cell_of_heap hR]; exact h3, h4, h5⟩
  refine ⟨by omega, by omega, ⟨W0.heap.size, 3, by omega, by omega, by rw [cell_of_heap hR]; exact h256, ?_, ?_, ?_⟩, ?_, two 2 (by omega), two 1 (by omega), two 0 (by omega)⟩
  · rw [cell_of_heap h.tab]; rfl
  · rw [cell_of_heap h.tab]; rfl
  · rw [cell_of_heap h.tab]; rfl
  · intro i hi h1 h2 h3
    rw [cell_of_heap hR]
    refine hno i hi ?_
    intro j hj
    match j, hj with
    | 0, _ => exact h3
    | 1, _ => exact h2
    | 2, _ => exact h1
end Go.Proofs.Ybulkedzg
