/-
  LawS6515BWhole: the four items.
-/
import Derived.Test.YbulkedxcIt
namespace Go.Proofs.Ybulkedxc
open Go.RowKit
attribute [local simp] setO_size setT_same

/-- the rows of the first j items -/
def rowsOf : Nat → List Value
  | 0 => []
  | j + 1 => rowsOf j ++ [.string (nm j), .int .i64 0, .int .i64 0]

/-- the store p behind j names and i items; N: the heap's size when the first was asked for -/
structure ItS (N B p s l : Nat) (xv : Value) (zs : Array Value) (W : World) (j i : Nat) : Prop where
  lt : p < N
  size : N ≤ W.heap.size
  base : B ≤ N
  c127 : W.cell? ⟨p, 127, none⟩ = some (cond (j == 0) (.slice none 0 0) (.slice (some ⟨s, 0, none⟩) 64 64))
  c128 : W.cell? ⟨p, 128, none⟩ = some (.int .i64 (min j 3 : Nat))
  c129 : W.cell? ⟨p, 129, none⟩ = some (cond (j == 4) (.map (some l)) (.map none))
  c130 : W.cell? ⟨p, 130, none⟩ = some (.int .i32 j)
  c131 : W.cell? ⟨p, 131, none⟩ = some xv
  fr : ∀ k, W.frozen? ⟨p, k, none⟩ = false
  own : W.ownsRow N 92 3 xv i (rowsOf i)
  hs : 0 < j → N ≤ s ∧ s < W.heap.size ∧ W.heap[s]? = some (.cells zs 160 (0, 0)) ∧ xv.ownBlock ≠ some s
  zsz : 0 < j → zs.size = 192
  zin : 0 < j → ∀ i, i < 3 → i < j → zs[sx i * 3]? = some (.int .u64 (120 + i)) ∧ zs[sx i * 3 + 1]? = some (.int .i32 (i + 1)) ∧ zs[sx i * 3 + 2]? = some (.int .u8 1)
  zout : 0 < j → ∀ i, i < 3 → j ≤ i → zs[sx i * 3]? = some (.int .u64 0) ∧ zs[sx i * 3 + 1]? = some (.int .i32 0) ∧ zs[sx i * 3 + 2]? = some (.int .u8 0)
  hl : j = 4 → N ≤ l ∧ l < W.heap.size ∧ l ≠ s ∧ xv.ownBlock ≠ some l ∧ W.heap[l]? = some (.map #[{ key := .string (nm 3), val := .int .i32 3, born := 0 }] 1)

/-- what item leaves alone -/
structure ItF (N p : Nat) (W W' : World) : Prop where
  os : W'.os = W.os
  output : W'.output = W.output
  size : W.heap.size ≤ W'.heap.size
  block : ∀ b, b < N → b ≠ p → W'.heap[b]? = W.heap[b]?
  cell : ∀ k, k < 127 → W'.cell? ⟨p, k, none⟩ = W.cell? ⟨p, k, none⟩

theorem ItF.refl (N p : Nat) (W : World) : ItF N p W W := ⟨rfl, rfl, Nat.le_refl _, fun _ _ _ => rfl, fun _ _ => rfl⟩
theorem ItF.trans {N p : Nat} {a b c : World} (h : ItF N p a b) (k : ItF N p b c) : ItF N p a c :=
  ⟨k.os.trans h.os, k.output.trans h.output, Nat.le_trans h.size k.size, fun x hx hp => (k.block x hx hp).trans (h.block x hx hp), fun x hx => (k.cell x hx).trans (h.cell x hx)⟩
theorem row_lt {w : World} {B n e k : Nat} {v : Value} {xs : List Value} (h : w.ownsRow B e k v n xs) : ∀ b, v.ownBlock = some b → B ≤ b ∧ b < w.heap.size := by
  intro b hb
  rcases h.2 with ⟨h1, _⟩ | ⟨g, cap, cur, h1, h3, h2, _⟩
  · rw [h1] at hb; simp [Value.ownBlock] at hb
  · rw [h1] at hb
    simp [Value.ownBlock] at hb
    subst hb
    exact ⟨h3, (Array.getElem?_eq_some_iff.1 h2).1⟩
theorem row_keep {w w' : World} {B n e k : Nat} {v : Value} {xs : List Value} (h : w.ownsRow B e k v n xs) (hk : ∀ b, v.ownBlock = some b → w'.heap[b]? = w.heap[b]?) : w'.ownsRow B e k v n xs := by
  obtain ⟨h1, h2⟩ := h
  refine ⟨h1, ?_⟩
  rcases h2 with h3 | ⟨g, cap, cur, rfl, hg, hheap, hnc, hm, hsz, htk⟩
  · exact Or.inl h3
  · exact Or.inr ⟨g, cap, cur, rfl, hg, (hk g rfl).trans hheap, hnc, hm, hsz, htk⟩
theorem heap_setCell_at {W : World} {g i : Nat} {cs : Array Value} {t : TypeId} {f : Nat × Nat} (v : Value) (h : W.heap[g]? = some (.cells cs t f)) : (W.setCell ⟨g, i, none⟩ v).heap[g]? = some (.cells (cs.setIfInBounds i v) t f) := by
  rw [setCell_eq_setRow W g i cs t f v h]
  exact setRow_heap W g cs _ t f h

theorem sx_lt (i : Nat) : sx i < 64 := by unfold sx; split; omega; split <;> omega
theorem sx_ne {i j : Nat} (hi : i < 3) (hj : j < 3) (h : i ≠ j) : sx i ≠ sx j := by
  match i, j, hi, hj with
  | 0, 0, _, _ => exact absurd rfl h
  | 0, 1, _, _ => decide
  | 0, 2, _, _ => decide
  | 1, 0, _, _ => decide
  | 1, 1, _, _ => exact absurd rfl h
  | 1, 2, _, _ => decide
  | 2, 0, _, _ => decide
  | 2, 1, _, _ => decide
  | 2, 2, _, _ => exact absurd rfl h

/-- the slots with name j laid -/
def laid (zs : Array Value) (j : Nat) : Array Value := ((zs.setIfInBounds (sx j * 3) (.int .u64 (120 + j))).setIfInBounds (sx j * 3 + 1) (.int .i32 (j + 1))).setIfInBounds (sx j * 3 + 2) (.int .u8 1)
theorem laid_size (zs : Array Value) (j : Nat) : (laid zs j).size = zs.size := by simp [laid]
theorem laid_same (zs : Array Value) (j : Nat) (h : zs.size = 192) : (laid zs j)[sx j * 3]? = some (.int .u64 (120 + j)) ∧ (laid zs j)[sx j * 3 + 1]? = some (.int .i32 (j + 1)) ∧ (laid zs j)[sx j * 3 + 2]? = some (.int .u8 1) := by
  have := sx_lt j
  unfold laid
  refine ⟨?_, ?_, ?_⟩
  · rw [Array.getElem?_setIfInBounds_ne (by omega), Array.getElem?_setIfInBounds_ne (by omega), Array.getElem?_setIfInBounds_self_of_lt (by omega)]
  · rw [Array.getElem?_setIfInBounds_ne (by omega), Array.getElem?_setIfInBounds_self_of_lt (by simp; omega)]
  · rw [Array.getElem?_setIfInBounds_self_of_lt (by simp; omega)]
theorem laid_other (zs : Array Value) (i j k : Nat) (hi : i < 3) (hj : j < 3) (hij : i ≠ j) (hk : k < 3) : (laid zs j)[sx i * 3 + k]? = zs[sx i * 3 + k]? := by
  have := sx_ne hi hj hij
  unfold laid
  rw [Array.getElem?_setIfInBounds_ne (by omega), Array.getElem?_setIfInBounds_ne (by omega), Array.getElem?_setIfInBounds_ne (by omega)]
end Go.Proofs.Ybulkedxc
