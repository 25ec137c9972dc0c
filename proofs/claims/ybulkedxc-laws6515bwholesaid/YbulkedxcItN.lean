/-
  LawS6515BWhole: the four items: the steps.
-/
import Derived.Test.YbulkedxcItS
namespace Go.Proofs.Ybulkedxc
open Go.RowKit
attribute [local simp] setO_size setT_same

/-- the world behind the numbering, block by block -/
theorem numbered_facts (w : World) (p s j : Nat) (zs : Array Value) (hps : p ≠ s) (hs : w.heap[s]? = some (.cells zs 160 (0, 0))) :
    (numbered w p s j).heap[s]? = some (.cells (laid zs j) 160 (0, 0)) ∧ (∀ b, b ≠ s → b ≠ p → (numbered w p s j).heap[b]? = w.heap[b]?) ∧ (numbered w p s j).heap.size = w.heap.size ∧ (numbered w p s j).os = w.os ∧ (numbered w p s j).output = w.output ∧
      (∀ k, k ≠ 128 → k ≠ 130 → (numbered w p s j).cell? ⟨p, k, none⟩ = w.cell? ⟨p, k, none⟩) ∧ (∀ v, w.cell? ⟨p, 128, none⟩ = some v → (numbered w p s j).cell? ⟨p, 128, none⟩ = some (.int .i64 (j + 1))) ∧ (∀ v, w.cell? ⟨p, 130, none⟩ = some v → (numbered w p s j).cell? ⟨p, 130, none⟩ = some (.int .i32 (j + 1))) ∧
      (∀ k, (numbered w p s j).frozen? ⟨p, k, none⟩ = w.frozen? ⟨p, k, none⟩) := by
  have e1 := heap_setCell_at (i := sx j * 3) (.int .u64 (120 + j)) hs
  have e2 := heap_setCell_at (i := sx j * 3 + 1) (.int .i32 (j + 1)) e1
  have e3 := heap_setCell_at (i := sx j * 3 + 2) (.int .u8 1) e2
  obtain ⟨w1, hw1⟩ : ∃ z, z = ((w.setCell ⟨s, sx j * 3, none⟩ (.int .u64 (120 + j))).setCell ⟨s, sx j * 3 + 1, none⟩ (.int .i32 (j + 1))).setCell ⟨s, sx j * 3 + 2, none⟩ (.int .u8 1) := ⟨_, rfl⟩
  have hn : numbered w p s j = (w1.setCell ⟨p, 128, none⟩ (.int .i64 (j + 1))).setCell ⟨p, 130, none⟩ (.int .i32 (j + 1)) := by rw [hw1]; rfl
  rw [← hw1] at e3
  have o1 : ∀ b, b ≠ s → w1.heap[b]? = w.heap[b]? := by
    intro b hb
    rw [hw1, heap_setCell_ne _ hb, heap_setCell_ne _ hb, heap_setCell_ne _ hb]
  have cp : ∀ k, w1.cell? ⟨p, k, none⟩ = w.cell? ⟨p, k, none⟩ := fun k => by simp [World.cell?, o1 p hps]
  have fp : ∀ k, w1.frozen? ⟨p, k, none⟩ = w.frozen? ⟨p, k, none⟩ := fun k => by simp [World.frozen?, o1 p hps]
  rw [hn]
  refine ⟨?_, ?_, by simp [hw1], by rw [hw1]; rfl, by rw [hw1]; rfl, ?_, ?_, ?_, ?_⟩
  · rw [heap_setCell_ne _ (Ne.symm hps), heap_setCell_ne _ (Ne.symm hps)]; exact e3
  · intro b hb hp
    rw [heap_setCell_ne _ hp, heap_setCell_ne _ hp]; exact o1 b hb
  · intro k _ _
    rw [World.cell?_setCell_other _ _ _ _ (by simp), World.cell?_setCell_other _ _ _ _ (by simp)]
    exact cp k
  · intro v hv
    rw [World.cell?_setCell_other _ _ _ _ (by simp)]
    exact World.cell?_setCell_same _ _ _ ((cp 128).trans hv)
  · intro v hv
    exact World.cell?_setCell_same _ _ _ ((World.cell?_setCell_other _ _ _ _ (by simp)).trans ((cp 130).trans hv))
  · intro k
    simp only [World.frozen?_setCell]
    exact fp k
theorem ItS.next {N B p s l j i : Nat} {xv : Value} {zs : Array Value} {W : World} (h : ItS N B p s l xv zs W j i) (h0 : 0 < j) (h3 : j < 3) (m : Nat) :
    ItS N B p s l xv (laid zs j) (numbered (W.drewN m) p s j) (j + 1) i ∧ ItF N p W (numbered (W.drewN m) p s j) := by
  obtain ⟨s1, s2, s3, s4⟩ := h.hs h0
  have hps : p ≠ s := by have := h.lt; omega
  obtain ⟨n1, n2, n3, n4, n5, n6, n7, n8, n9⟩ := numbered_facts (W.drewN m) p s j zs hps (by simpa using s3)
  have hc : ∀ k, (W.drewN m).cell? ⟨p, k, none⟩ = W.cell? ⟨p, k, none⟩ := fun k => by simp
  have hf : ∀ k, (W.drewN m).frozen? ⟨p, k, none⟩ = W.frozen? ⟨p, k, none⟩ := fun k => by simp
  have hz : (W.drewN m).heap = W.heap := rfl
  have hsz : (numbered (W.drewN m) p s j).heap.size = W.heap.size := n3
  have hj0 : (j == 0) = false := by simp; omega
  have hj1 : (j + 1 == 0) = false := by simp
  have hj4 : (j == 4) = false := by simp; omega
  have hj5 : (j + 1 == 4) = false := by simp; omega
  have hblk : ∀ b, b ≠ s → b ≠ p → (numbered (W.drewN m) p s j).heap[b]? = W.heap[b]? := n2
  refine ⟨⟨h.lt, by rw [hsz]; exact h.size, h.base, ?_, ?_, ?_, ?_, ?_, ?_, ?_, ?_, ?_, ?_, ?_, ?_⟩, ⟨n4, n5, by rw [hsz]; omega, fun b hb hp => hblk b (by omega) hp, fun k hk => (n6 k (by omega) (by omega)).trans (hc k)⟩⟩
  · rw [n6 127 (by omega) (by omega), hc, h.c127, hj0, hj1]
  · have := n7 _ ((hc 128).trans h.c128)
    rw [this]
    have e : min (j + 1) 3 = j + 1 := by omega
    rw [e]
    simp
  · rw [n6 129 (by omega) (by omega), hc, h.c129, hj4, hj5]
  · have := n8 _ ((hc 130).trans h.c130)
    rw [this]
    simp
  · rw [n6 131 (by omega) (by omega), hc]; exact h.c131
  · intro k; rw [n9, hf]; exact h.fr k
  · refine row_keep h.own (fun b hb => hblk b (fun e => s4 (by rw [← e]; exact hb)) ?_)
    have := (row_lt h.own b hb).1
    have := h.lt
    omega
  · intro _; exact ⟨s1, by rw [hsz]; exact s2, n1, s4⟩
  · intro _; rw [laid_size]; exact h.zsz h0
  · intro _ a ha haj
    by_cases e : a = j
    · subst e; exact laid_same zs a (h.zsz h0)
    · have o := fun k hk => laid_other zs a j k ha h3 e hk
      have z := h.zin h0 a ha (by omega)
      exact ⟨(o 0 (by omega)).trans z.1, (o 1 (by omega)).trans z.2.1, (o 2 (by omega)).trans z.2.2⟩
  · intro _ a ha haj
    have e : a ≠ j := by omega
    have o := fun k hk => laid_other zs a j k ha h3 e hk
    have z := h.zout h0 a ha (by omega)
    exact ⟨(o 0 (by omega)).trans z.1, (o 1 (by omega)).trans z.2.1, (o 2 (by omega)).trans z.2.2⟩
  · intro e; omega
theorem ItS.first {N B p s l i : Nat} {xv : Value} {zs0 : Array Value} {W : World} (h : ItS N B p s l xv zs0 W 0 i) (m m' : Nat) (zs : Array Value) (hz : zs.size = 192) (hzs : ∀ i, i < 64 → zs[i * 3]? = some (.int .u64 0) ∧ zs[i * 3 + 1]? = some (.int .i32 0) ∧ zs[i * 3 + 2]? = some (.int .u8 0)) (W' : World)
    (hW : W' = numbered ((((W.drewN m).setCell ⟨p, 127, none⟩ (.slice (some ⟨W.heap.size, 0, none⟩) 64 64)).alloc (.cells zs 160)).drewN m') p W.heap.size 0) :
    ItS N B p W.heap.size l xv (laid zs 0) W' 1 i ∧ ItF N p W W' := by
  have hp : p < W.heap.size := Nat.lt_of_lt_of_le h.lt h.size
  have hps : p ≠ W.heap.size := by omega
  obtain ⟨Y, hY⟩ : ∃ z, z = (W.drewN m).setCell ⟨p, 127, none⟩ (.slice (some ⟨W.heap.size, 0, none⟩) 64 64) := ⟨_, rfl⟩
  obtain ⟨X, hX⟩ : ∃ z, z = (Y.alloc (.cells zs 160)).drewN m' := ⟨_, rfl⟩
  have hYs : Y.heap.size = W.heap.size := by rw [hY]; simp
  have hXh : X.heap = (Y.alloc (.cells zs 160)).heap := by rw [hX]; rfl
  have hXs : X.heap.size = W.heap.size + 1 := by rw [hXh]; simp [hYs]
  have hXz : X.heap[W.heap.size]? = some (.cells zs 160 (0, 0)) := by
    rw [hXh, ← hYs]; exact heap_alloc_new Y _
  have hXo : ∀ b, b < W.heap.size → X.heap[b]? = Y.heap[b]? := fun b hb => by
    rw [hXh]; exact heap_alloc_old _ _ (by omega)
  have hXb : ∀ b, b < W.heap.size → b ≠ p → X.heap[b]? = W.heap[b]? := fun b hb hbp => by
    rw [hXo b hb, hY, heap_setCell_ne _ hbp]; rfl
  have hXc : ∀ k, X.cell? ⟨p, k, none⟩ = Y.cell? ⟨p, k, none⟩ := fun k => by simp [World.cell?, hXo p hp]
  have hXf : ∀ k, X.frozen? ⟨p, k, none⟩ = W.frozen? ⟨p, k, none⟩ := fun k => by
    have e1 : X.frozen? ⟨p, k, none⟩ = Y.frozen? ⟨p, k, none⟩ := by simp [World.frozen?, hXo p hp]
    rw [e1, hY, World.frozen?_setCell]
    simp
  have hX7 : X.cell? ⟨p, 127, none⟩ = some (.slice (some ⟨W.heap.size, 0, none⟩) 64 64) := by
    rw [hXc, hY]
    exact World.cell?_setCell_same _ _ _ (show (W.drewN m).cell? ⟨p, 127, none⟩ = some (.slice none 0 0) by simpa using h.c127)
  have hXk : ∀ k, k ≠ 127 → X.cell? ⟨p, k, none⟩ = W.cell? ⟨p, k, none⟩ := fun k hk => by
    rw [hXc, hY, World.cell?_setCell_other _ _ _ _ (by simp)]
    simp
  have hW2 : W' = numbered X p W.heap.size 0 := by rw [hW, hX, hY]
  have hos : X.os = W.os := by rw [hX, hY]; rfl
  have hou : X.output = W.output := by rw [hX, hY]; rfl
  clear hW hX hXh hXo hXc hY hYs
  obtain ⟨n1, n2, n3, n4, n5, n6, n7, n8, n9⟩ := numbered_facts X p W.heap.size 0 zs hps hXz
  rw [hW2]
  clear hW2
  have n7 := n7 _ ((hXk 128 (by omega)).trans h.c128)
  have n8 := n8 _ ((hXk 130 (by omega)).trans h.c130)
  generalize numbered X p W.heap.size 0 = Z at *
  have hsz : Z.heap.size = W.heap.size + 1 := n3.trans hXs
  have hlt := h.lt
  have hszN := h.size
  have hxb := row_lt h.own
  refine ⟨⟨h.lt, by omega, h.base, ?_, ?_, ?_, ?_, ?_, ?_, ?_, ?_, ?_, ?_, ?_, ?_⟩, ⟨n4.trans hos, n5.trans hou, by omega, fun b hb hp => (n2 b (by omega) hp).trans (hXb b (by omega) hp), fun k hk => (n6 k (by omega) (by omega)).trans (hXk k (by omega))⟩⟩
  · rw [n6 127 (by omega) (by omega), hX7]; rfl
  · rw [n7]; rfl
  · rw [n6 129 (by omega) (by omega), hXk 129 (by omega), h.c129]; rfl
  · rw [n8]; rfl
  · rw [n6 131 (by omega) (by omega), hXk 131 (by omega)]; exact h.c131
  · intro k; rw [n9, hXf]; exact h.fr k
  · refine row_keep h.own (fun b hb => ?_)
    have := hxb b hb
    exact (n2 b (by omega) (by omega)).trans (hXb b (by omega) (by omega))
  · intro _
    refine ⟨hszN, by omega, n1, fun e => ?_⟩
    have := hxb _ e
    omega
  · intro _; rw [laid_size]; exact hz
  · intro _ a ha haj
    obtain rfl : a = 0 := by omega
    exact laid_same zs 0 hz
  · intro _ a ha haj
    have o := fun k hk => laid_other zs a 0 k ha (by omega) (by omega) hk
    have z := hzs (sx a) (sx_lt a)
    exact ⟨(o 0 (by omega)).trans z.1, (o 1 (by omega)).trans z.2.1, (o 2 (by omega)).trans z.2.2⟩
  · intro e; omega
theorem ItS.long {N B p s l0 i : Nat} {xv : Value} {zs : Array Value} {W : World} (h : ItS N B p s l0 xv zs W 3 i) (W' : World)
    (hW : W' = (setO ((W.setCell ⟨p, 129, none⟩ (.map (some W.heap.size))).alloc (.map #[] 0)).drew W.heap.size (.map #[{ key := .string (nm 3), val := .int .i32 3, born := 0 }] 1)).setCell ⟨p, 130, none⟩ (.int .i32 4)) :
    ItS N B p s W.heap.size xv zs W' 4 i ∧ ItF N p W W' := by
  have hp : p < W.heap.size := Nat.lt_of_lt_of_le h.lt h.size
  have hps : p ≠ W.heap.size := by omega
  obtain ⟨s1, s2, s3, s4⟩ := h.hs (by omega)
  obtain ⟨Y, hY⟩ : ∃ z, z = W.setCell ⟨p, 129, none⟩ (.map (some W.heap.size)) := ⟨_, rfl⟩
  obtain ⟨X, hX⟩ : ∃ z, z = setO (Y.alloc (.map #[] 0)).drew W.heap.size (.map #[{ key := .string (nm 3), val := .int .i32 3, born := 0 }] 1) := ⟨_, rfl⟩
  have hYs : Y.heap.size = W.heap.size := by rw [hY]; simp
  have hXs : X.heap.size = W.heap.size + 1 := by
    rw [hX, setO_size]
    show (Y.alloc (.map #[] 0)).heap.size = _
    simp [hYs]
  have hXz : X.heap[W.heap.size]? = some (.map #[{ key := .string (nm 3), val := .int .i32 3, born := 0 }] 1) := by
    rw [hX]
    refine setO_heap _ _ _ ?_
    show _ < (Y.alloc (.map #[] 0)).heap.size
    simp [hYs]
  have hXo : ∀ b, b < W.heap.size → X.heap[b]? = Y.heap[b]? := fun b hb => by
    rw [hX, setO_other _ _ _ _ (by omega)]
    exact heap_alloc_old _ _ (by omega)
  have hXb : ∀ b, b < W.heap.size → b ≠ p → X.heap[b]? = W.heap[b]? := fun b hb hbp => by
    rw [hXo b hb, hY, heap_setCell_ne _ hbp]
  have hXc : ∀ k, X.cell? ⟨p, k, none⟩ = Y.cell? ⟨p, k, none⟩ := fun k => by simp [World.cell?, hXo p hp]
  have hXf : ∀ k, X.frozen? ⟨p, k, none⟩ = W.frozen? ⟨p, k, none⟩ := fun k => by
    have e1 : X.frozen? ⟨p, k, none⟩ = Y.frozen? ⟨p, k, none⟩ := by simp [World.frozen?, hXo p hp]
    rw [e1, hY, World.frozen?_setCell]
  have hX9 : X.cell? ⟨p, 129, none⟩ = some (.map (some W.heap.size)) := by
    rw [hXc, hY]
    exact World.cell?_setCell_same _ _ _ h.c129
  have hXk : ∀ k, k ≠ 129 → X.cell? ⟨p, k, none⟩ = W.cell? ⟨p, k, none⟩ := fun k hk => by
    rw [hXc, hY, World.cell?_setCell_other _ _ _ _ (by simp)]
  have hW2 : W' = X.setCell ⟨p, 130, none⟩ (.int .i32 4) := by rw [hW, hX, hY]
  have hos : X.os = W.os := by rw [hX, hY]; rfl
  have hou : X.output = W.output := by rw [hX, hY]; rfl
  clear hW hX hXo hXc hY hYs
  have hsz : W'.heap.size = W.heap.size + 1 := by rw [hW2]; simpa using hXs
  have hb' : ∀ b, b ≠ p → W'.heap[b]? = X.heap[b]? := fun b hb => by rw [hW2, heap_setCell_ne _ hb]
  have hc' : ∀ k, k ≠ 130 → W'.cell? ⟨p, k, none⟩ = X.cell? ⟨p, k, none⟩ := fun k hk => by rw [hW2, World.cell?_setCell_other _ _ _ _ (by simp)]
  have h30 : W'.cell? ⟨p, 130, none⟩ = some (.int .i32 4) := by rw [hW2]; exact World.cell?_setCell_same _ _ _ ((hXk 130 (by omega)).trans h.c130)
  have hf' : ∀ k, W'.frozen? ⟨p, k, none⟩ = W.frozen? ⟨p, k, none⟩ := fun k => by rw [hW2, World.frozen?_setCell]; exact hXf k
  have hos' : W'.os = W.os := by rw [hW2]; exact hos
  have hou' : W'.output = W.output := by rw [hW2]; exact hou
  clear hW2 hXf
  have hlt := h.lt
  have hszN := h.size
  have hxb := row_lt h.own
  refine ⟨⟨h.lt, by omega, h.base, ?_, ?_, ?_, ?_, ?_, ?_, ?_, ?_, ?_, ?_, ?_, ?_⟩, ⟨hos', hou', by omega, fun b hb hp => (hb' b hp).trans (hXb b (by omega) hp), fun k hk => (hc' k (by omega)).trans (hXk k (by omega))⟩⟩
  · rw [hc' 127 (by omega), hXk 127 (by omega), h.c127]; rfl
  · rw [hc' 128 (by omega), hXk 128 (by omega), h.c128]; rfl
  · rw [hc' 129 (by omega), hX9]; rfl
  · rw [h30]; rfl
  · rw [hc' 131 (by omega), hXk 131 (by omega)]; exact h.c131
  · intro k; rw [hf']; exact h.fr k
  · refine row_keep h.own (fun b hb => ?_)
    have := hxb b hb
    exact (hb' b (by omega)).trans (hXb b (by omega) (by omega))
  · intro _
    exact ⟨s1, by omega, (hb' s (by omega)).trans ((hXb s s2 (by omega)).trans s3), s4⟩
  · intro _; exact h.zsz (by omega)
  · intro _ a ha haj
    exact h.zin (by omega) a ha ha
  · intro _ a ha haj
    omega
  · intro _
    refine ⟨by omega, by omega, by omega, fun e => ?_, (hb' _ (by omega)).trans hXz⟩
    have := hxb _ e
    omega
theorem ItS.app {N B p s l j i : Nat} {xv : Value} {zs : Array Value} {W : World} (h : ItS N B p s l xv zs W j i) (g cap : Nat) (w2 W' : World)
    (hown : w2.ownsRow N 92 3 (.slice (some ⟨g, 0, none⟩) (i + 1) cap) (i + 1) (rowsOf i ++ [.string (nm i), .int .i64 0, .int .i64 0]))
    (hgr : (W.alloc (.cells #[.string (nm i), .int .i64 0, .int .i64 0] 92)).grownBy w2 xv.ownBlock) (hg : xv.ownBlock = some g ∨ g = W.heap.size + 1) (hlt : g < w2.heap.size)
    (hW : W' = w2.setCell ⟨p, 131, none⟩ (.slice (some ⟨g, 0, none⟩) (i + 1) cap)) :
    ItS N B p s l (.slice (some ⟨g, 0, none⟩) (i + 1) cap) zs W' j (i + 1) ∧ ItF N p W W' := by
  have hp : p < W.heap.size := Nat.lt_of_lt_of_le h.lt h.size
  have hxb := row_lt h.own
  have hszN := h.size
  have hpN := h.lt
  have hs0 : (W.alloc (.cells #[.string (nm i), .int .i64 0, .int .i64 0] 92)).heap.size = W.heap.size + 1 := by simp
  have hgs := hgr.size
  rw [hs0] at hgs
  have hgN : N ≤ g := by
    rcases hg with e | e
    · exact (hxb g e).1
    · omega
  have hxp : some p ≠ xv.ownBlock := fun e => by have := hxb p e.symm; omega
  have hsz : W'.heap.size = w2.heap.size := by rw [hW]; simp
  have hblk : ∀ b, b < W.heap.size → b ≠ p → some b ≠ xv.ownBlock → W'.heap[b]? = W.heap[b]? := fun b hb hbp hx => by
    rw [hW, heap_setCell_ne _ hbp, hgr.block b (by omega) hx]
    exact heap_alloc_old _ _ hb
  have hcp : ∀ k, w2.cell? ⟨p, k, none⟩ = W.cell? ⟨p, k, none⟩ := fun k => by
    rw [hgr.cell_far ⟨p, k, none⟩ (by simp; omega) hxp, World.cell?_alloc_past _ _ _ hp]
  have hfp : ∀ k, w2.frozen? ⟨p, k, none⟩ = W.frozen? ⟨p, k, none⟩ := fun k => by
    rw [hgr.frozen_far ⟨p, k, none⟩ (by simp; omega) hxp, World.frozen?_alloc_past _ _ _ hp]
  have hck : ∀ k, k ≠ 131 → W'.cell? ⟨p, k, none⟩ = W.cell? ⟨p, k, none⟩ := fun k hk => by
    rw [hW, World.cell?_setCell_other _ _ _ _ (by simp)]; exact hcp k
  refine ⟨⟨h.lt, by omega, h.base, ?_, ?_, ?_, ?_, ?_, ?_, ?_, ?_, h.zsz, h.zin, h.zout, ?_⟩, ⟨?_, ?_, by omega, ?_, fun k hk => hck k (by omega)⟩⟩
  · rw [hck 127 (by omega)]; exact h.c127
  · rw [hck 128 (by omega)]; exact h.c128
  · rw [hck 129 (by omega)]; exact h.c129
  · rw [hck 130 (by omega)]; exact h.c130
  · rw [hW]; exact World.cell?_setCell_same _ _ _ ((hcp 131).trans h.c131)
  · intro k; rw [hW, World.frozen?_setCell, hfp]; exact h.fr k
  · refine row_keep hown (fun b hb => ?_)
    simp [Value.ownBlock] at hb
    subst hb
    rw [hW, heap_setCell_ne _ (by omega)]
  · intro h0
    obtain ⟨s1, s2, s3, s4⟩ := h.hs h0
    refine ⟨s1, by omega, (hblk s s2 (by omega) (Ne.symm s4)).trans s3, ?_⟩
    simp [Value.ownBlock]
    intro e
    subst e
    rcases hg with e | e
    · exact s4 e
    · omega
  · intro h4
    obtain ⟨s1, s2, s3, s4, s5⟩ := h.hl h4
    refine ⟨s1, by omega, s3, ?_, (hblk l s2 (by omega) (Ne.symm s4)).trans s5⟩
    simp [Value.ownBlock]
    intro e
    subst e
    rcases hg with e | e
    · exact s4 e
    · omega
  · rw [hW]; exact hgr.os
  · rw [hW]; exact hgr.output
  · intro b hb hbp
    exact hblk b (by omega) hbp (fun e => by have := hxb b e.symm; omega)
/-- an item more -/
theorem item_step {N B p s l j : Nat} {xv : Value} {zs : Array Value} {W : World} (h : ItS N B p s l xv zs W j j) (hj : j < 4) :
    Calls Yba.prog 5 #[.pointer (some ⟨p, 0, none⟩), .string (nm j)] W fun e W' => e = .returned (.int .i32 j) ∧ ∃ s' l' xv' zs', ItS N B p s' l' xv' zs' W' (j + 1) (j + 1) ∧ ItF N p W W' := by
  have hp : p < W.heap.size := Nat.lt_of_lt_of_le h.lt h.size
  have hx : xv.ownBlock ≠ some p := fun e => by have := row_lt h.own p e; have := h.lt; omega
  have fin : ∀ NP : World → Prop, (∀ W1, NP W1 → ∃ s' l' zs', ItS N B p s' l' xv zs' W1 (j + 1) j ∧ ItF N p W W1) → Calls Yba.prog 13 #[.pointer (some ⟨p, 127, none⟩), .string (nm j)] W (fun e w' => e = .returned (.tuple #[.int .i32 j, .bool true]) ∧ NP w') →
      Calls Yba.prog 5 #[.pointer (some ⟨p, 0, none⟩), .string (nm j)] W fun e W' => e = .returned (.int .i32 j) ∧ ∃ s' l' xv' zs', ItS N B p s' l' xv' zs' W' (j + 1) (j + 1) ∧ ItF N p W W' := by
    intro NP hNP hnum
    refine (item_call p j N j (nm j) xv (rowsOf j) W NP hnum ?_ hx (by omega)).mono ?_
    · intro W1 hW1
      obtain ⟨s', l', zs', h1, h2⟩ := hNP W1 hW1
      exact ⟨h1.c131, h1.fr 131, h1.own, Nat.lt_of_lt_of_le h1.lt h1.size, h1.size⟩
    · rintro e w' ⟨rfl, W1, hW1, g, cap, w2, hown, hgr, hg, hlt, hW⟩
      obtain ⟨s', l', zs', h1, h2⟩ := hNP W1 hW1
      obtain ⟨k1, k2⟩ := h1.app g cap w2 w' hown hgr hg hlt hW
      exact ⟨rfl, s', l', _, zs', k1, h2.trans k2⟩
  rcases Nat.lt_or_ge j 3 with h3 | h3
  · rcases Nat.eq_zero_or_pos j with h0 | h0
    · subst h0
      refine fin _ ?_ (number_first p W hp h.c127 h.c128 h.c130 (h.fr 127) (h.fr 128) (h.fr 130))
      rintro W1 ⟨m, m', z, hz, hzs, hW⟩
      obtain ⟨k1, k2⟩ := h.first m m' z hz hzs W1 hW
      exact ⟨_, _, _, k1, k2⟩
    · obtain ⟨s1, s2, s3, s4⟩ := h.hs h0
      have hcz : ∀ k, W.cell? ⟨s, k, none⟩ = zs[k]? := fun k => by simp [World.cell?, s3]
      have hfz : ∀ k, W.frozen? ⟨s, k, none⟩ = false := fun k => by simp [World.frozen?, s3]
      obtain ⟨z0, z1, z2⟩ := h.zout h0 j h3 (Nat.le_refl _)
      have hj0 : (j == 0) = false := by simp; omega
      have c127 := h.c127
      rw [hj0] at c127
      have c128 := h.c128
      rw [show min j 3 = j by omega] at c128
      have hps : p ≠ s := by have := h.lt; omega
      refine fin _ ?_ (number_next j h3 p s 64 W hps ⟨c127, c128, h.c130, h.fr 128, h.fr 130⟩ _ _ ((hcz _).trans z0) ((hcz _).trans z1) ((hcz _).trans z2) (hfz _) (hfz _) (hfz _))
      rintro W1 ⟨m, hW⟩
      obtain ⟨k1, k2⟩ := h.next h0 h3 m
      have hW : W1 = numbered (W.drewN m) p s j := hW
      rw [hW]
      exact ⟨_, _, _, k1, k2⟩
  · obtain rfl : j = 3 := by omega
    refine fin _ ?_ (number_long p W hp h.c129 h.c130 (h.fr 129) (h.fr 130))
    intro W1 hW
    obtain ⟨k1, k2⟩ := h.long W1 hW
    exact ⟨_, _, _, k1, k2⟩
end Go.Proofs.Ybulkedxc
