/-
  LawS6515BWhole: statement 37: what a round finds.
-/
import Derived.Test.YbulkedxcU29
import Derived.Test.YbulkedxcSe
namespace Go.Proofs.Ybulkedxc
open Go.RowKit
attribute [local simp] setO_size setT_same
set_option linter.unusedSimpArgs false
set_option linter.unusedVariables false
set_option linter.unnecessarySimpa false

theorem find_in (key : Nat → Int) (val : Nat → Value) (born : Nat → Nat) (i : Nat) (hinj : ∀ j, j ≠ i → key j ≠ key i) : ∀ (l : List Nat) (n : Nat), i ∈ l → ∃ p, Instr.findNow (.int .i64) (.int .i64 (key i)) (l.map fun j => ent (key j) (val j) (born j)) n = some (some (p, val i))
  | [], _, h => by cases h
  | j :: l, n, h => by
    by_cases e : j = i
    · subst e
      exact ⟨n, by simp [Instr.findNow, Instr.sameNow, ent]⟩
    · have hne : (key i == key j) = false := by have := hinj j e; simp; omega
      obtain ⟨p, hp⟩ := find_in key val born i hinj l (n + 1) (by simpa [Ne.symm e] using h)
      refine ⟨p, ?_⟩
      simp only [List.map_cons, Instr.findNow, Instr.sameNow, ent, if_true, hne]
      simp only [ent] at hp
      exact hp
theorem find_out (key : Nat → Int) (val : Nat → Value) (born : Nat → Nat) (i : Nat) (hinj : ∀ j, j ≠ i → key j ≠ key i) (l : List Nat) (h : i ∉ l) : Instr.findNow (.int .i64) (.int .i64 (key i)) (l.map fun j => ent (key j) (val j) (born j)) 0 = some none := by
  refine findNow_none _ _ _ ?_
  intro e he
  simp at he
  obtain ⟨j, hj, rfl⟩ := he
  exact ⟨_, _, _, rfl, hinj j (fun e => h (e ▸ hj))⟩

section
variable {D : Inp} {V : Var} {A : Role → Nat} {S : Sys} {lx : List Int} {cv : Value} {xcap : Nat} {ib : Nat → Nat} {nv nv2 cy2 : Value} {ob : Nat} {w0 W : World}

theorem ends_mem (D : Inp) (n k : Nat) (hk : k < n + 1) : decide (k ∈ 0 :: clOf D (n + 1)) = ends D k := by
  unfold ends clOf
  by_cases h0 : k = 0
  · subst h0; simp
  · cases hc : (D.sp k).casc <;> simp [h0, hc, hk]
theorem Aft.en (h : Aft D V A S lx cv xcap ib nv nv2 cy2 ob w0 W) (k : Nat) (hk : k < D.on + 1) : S.en k = ends D k := by
  obtain ⟨a, c, hd, _⟩ := h.did
  rw [hd.en k, ends_mem D D.on k hk]
theorem Aft.an (h : Aft D V A S lx cv xcap ib nv nv2 cy2 ob w0 W) (k : Nat) (hk : k < D.on + 1) : S.an k = (ends D k && (D.sp k).wait) := by
  obtain ⟨a, c, hd, _⟩ := h.did
  rw [hd.an k, ends_mem D D.on k hk]
  rfl
theorem lt_cell {w : World} {b k : Nat} {v : Value} (h : w.cell? ⟨b, k, none⟩ = some v) : b < w.heap.size := by
  rcases Nat.lt_or_ge b w.heap.size with h' | h'
  · exact h'
  · simp [World.cell?, Array.getElem?_eq_none h'] at h
/-- a cell of a role, in a later world -/
theorem Aft.at_ (h : Aft D V A S lx cv xcap ib nv nv2 cy2 ob w0 W) {w : World} (hb : Below W.heap.size W w) (r : Role) (k : Nat) (v : Value) (hm : mem A (envOf D (D.on + 1) cv xcap) S r k = some v) : w.cell? ⟨A r, k, none⟩ = some v := by
  have hc := h.rep.rep.cell r k v hm
  exact (hb.cell (p := ⟨A r, k, none⟩) (h.rep.rep.dom r hc.1).2).trans hc.2.1
theorem Aft.uAt (h : Aft D V A S lx cv xcap ib nv nv2 cy2 ob w0 W) {w : World} (hb : Below W.heap.size W w) (k : Nat) (hk : k < D.on + 1) (j : Nat) (v : Value) (hm : uC A (envOf D (D.on + 1) cv xcap) S k j = some v) : w.cell? ⟨A (.U k), j, none⟩ = some v := h.at_ hb (.U k) j v ((if_pos hk).trans hm)
theorem Aft.wAt (h : Aft D V A S lx cv xcap ib nv nv2 cy2 ob w0 W) {w : World} (hb : Below W.heap.size W w) (k : Nat) (hk : k < D.on + 1) (hw : (D.sp k).wait = true) (j : Nat) (v : Value) (hm : wC A (envOf D (D.on + 1) cv xcap) S k j = some v) : w.cell? ⟨A (.Wt k), j, none⟩ = some v := h.at_ hb (.Wt k) j v ((if_pos ⟨hk, hw⟩).trans hm)
theorem Aft.aAt (h : Aft D V A S lx cv xcap ib nv nv2 cy2 ob w0 W) {w : World} (hb : Below W.heap.size W w) (k : Nat) (hk : k < D.on + 1) (he : ends D k = true) (j : Nat) (v : Value) (hm : aC (envOf D (D.on + 1) cv xcap) S k j = some v) : w.cell? ⟨A (.Ae k), j, none⟩ = some v := by
  refine h.at_ hb (.Ae k) j v ((if_pos hk).trans ?_)
  rw [h.en k hk, he]
  exact hm
theorem Aft.tx (h : Aft D V A S lx cv xcap ib nv nv2 cy2 ob w0 W) {w : World} (hb : Below W.heap.size W w) (k : Nat) (hk : k < D.on + 1) : w.cell? ⟨V.tx, k, none⟩ = some (ptr (A (.U k))) := by
  obtain ⟨cs, h1, _, h2⟩ := h.arr.tx
  rw [hb.cell (p := ⟨V.tx, k, none⟩) (Array.getElem?_eq_some_iff.1 h1).1, cell_of h1]
  exact h2 k hk
theorem Aft.wt (h : Aft D V A S lx cv xcap ib nv nv2 cy2 ob w0 W) {w : World} (hb : Below W.heap.size W w) (k : Nat) (hk : k < D.on + 1) : w.cell? ⟨V.wt, k, none⟩ = some (cond (D.sp k).wait (ptr (A (.Wt k))) (.pointer none)) := by
  obtain ⟨cs, h1, _, h2, _⟩ := h.arr.wt
  rw [hb.cell (p := ⟨V.wt, k, none⟩) (Array.getElem?_eq_some_iff.1 h1).1, cell_of h1]
  exact h2 k hk
theorem Aft.liveH (h : Aft D V A S lx cv xcap ib nv nv2 cy2 ob w0 W) {w : World} (hb : Below W.heap.size W w) : w.heap[A .live]? = some (.map ((liveL (envOf D (D.on + 1) cv xcap) S).map (liveE A)).toArray (D.on + 1)) :=
  (hb.block _ (h.rep.rep.dom .live trivial).2).trans (h.rep.rep.obj .live _ rfl).2
theorem Aft.waitH (h : Aft D V A S lx cv xcap ib nv nv2 cy2 ob w0 W) {w : World} (hb : Below W.heap.size W w) : w.heap[A .wait]? = some (.map ((waitL (envOf D (D.on + 1) cv xcap) S).map (waitE A (envOf D (D.on + 1) cv xcap))).toArray (rank (envOf D (D.on + 1) cv xcap) (D.on + 1))) :=
  (hb.block _ (h.rep.rep.dom .wait trivial).2).trans (h.rep.rep.obj .wait _ rfl).2
theorem zero96 (w : World) : (zeroValue 96).run Yba.prog w = .ok (.pointer none) w := by kernel_rfl
theorem Aft.live_hit (h : Aft D V A S lx cv xcap ib nv nv2 cy2 ob w0 W) (k : Nat) (hk : k < D.on + 1) (he : ends D k = false) (w : World) (hb : Below W.heap.size W w) : (Instr.lookup 41 (.map (some (A .live))) (.int .i64 ((k : Int) + 1)) false).run Yba.prog w = .ok (.pointer (some ⟨A (.U k), 0, none⟩)) w := by
  obtain ⟨p, hp⟩ := find_in (fun j => (j : Int) + 1) (fun j => ptr (A (.U j))) (fun j => j) k (fun j hj => by omega) (liveL (envOf D (D.on + 1) cv xcap) S) 0 (by unfold liveL; simp [h.en k hk, he]; exact hk)
  exact run_lookup_hit (P := Yba.prog) w (t := 41) (d := .int .i64) Yba.underlying41 Yba.underlying3 (h.liveH hb) (key := .int .i64 ((k : Int) + 1)) (v := ptr (A (.U k))) (i := p) rfl hp false
theorem Aft.live_miss (h : Aft D V A S lx cv xcap ib nv nv2 cy2 ob w0 W) (k : Nat) (hk : k < D.on + 1) (he : ends D k = true) (w : World) (hb : Below W.heap.size W w) : (Instr.lookup 41 (.map (some (A .live))) (.int .i64 ((k : Int) + 1)) true).run Yba.prog w = .ok (.tuple #[.pointer none, .bool false]) w := by
  have hp := find_out (fun j => (j : Int) + 1) (fun j => ptr (A (.U j))) (fun j => j) k (fun j hj => by omega) (liveL (envOf D (D.on + 1) cv xcap) S) (by unfold liveL; simp [h.en k hk, he])
  exact run_lookup_miss (P := Yba.prog) w (t := 41) (d := .int .i64) Yba.underlying41 Yba.underlying3 (h.liveH hb) (key := .int .i64 ((k : Int) + 1)) (z := .pointer none) rfl zero96 hp true
theorem Aft.wait_hit (h : Aft D V A S lx cv xcap ib nv nv2 cy2 ob w0 W) (k : Nat) (hk : k < D.on + 1) (he : ends D k = false) (hw : (D.sp k).wait = true) (w : World) (hb : Below W.heap.size W w) : (Instr.lookup 41 (.map (some (A .wait))) (.int .i64 (((k : Int) + 1) * 10)) false).run Yba.prog w = .ok (.pointer (some ⟨A (.U k), 0, none⟩)) w := by
  obtain ⟨p, hp⟩ := find_in (fun j => ((j : Int) + 1) * 10) (fun j => ptr (A (.U j))) (fun j => rank (envOf D (D.on + 1) cv xcap) j) k (fun j hj => by omega) (waitL (envOf D (D.on + 1) cv xcap) S) 0 (by unfold waitL; simp [h.an k hk, he]; exact ⟨hk, hw⟩)
  exact run_lookup_hit (P := Yba.prog) w (t := 41) (d := .int .i64) Yba.underlying41 Yba.underlying3 (h.waitH hb) (key := .int .i64 (((k : Int) + 1) * 10)) (v := ptr (A (.U k))) (i := p) rfl hp false
theorem Aft.wait_miss (h : Aft D V A S lx cv xcap ib nv nv2 cy2 ob w0 W) (k : Nat) (hk : k < D.on + 1) (he : ends D k = true) (w : World) (hb : Below W.heap.size W w) : (Instr.lookup 41 (.map (some (A .wait))) (.int .i64 (((k : Int) + 1) * 10)) true).run Yba.prog w = .ok (.tuple #[.pointer none, .bool false]) w := by
  have hp := find_out (fun j => ((j : Int) + 1) * 10) (fun j => ptr (A (.U j))) (fun j => rank (envOf D (D.on + 1) cv xcap) j) k (fun j hj => by omega) (waitL (envOf D (D.on + 1) cv xcap) S) (by
    unfold waitL
    simp only [List.mem_filter, h.an k hk, he, Bool.true_and]
    show ¬ (_ ∧ ((D.sp k).wait && !(D.sp k).wait) = true)
    simp)
  exact run_lookup_miss (P := Yba.prog) w (t := 41) (d := .int .i64) Yba.underlying41 Yba.underlying3 (h.waitH hb) (key := .int .i64 (((k : Int) + 1) * 10)) (z := .pointer none) rfl zero96 hp true
end

/-- how many of the first k live on; how many of them wait -/
def nlv (D : Inp) (k : Nat) : Nat := ((List.range k).filter fun i => !ends D i).length
def nwt (D : Inp) (k : Nat) : Nat := ((List.range k).filter fun i => !ends D i && (D.sp i).wait).length
theorem nlv_succ (D : Inp) (k : Nat) : nlv D (k + 1) = cond (ends D k) (nlv D k) (nlv D k + 1) := by
  unfold nlv
  rw [List.range_succ, List.filter_append]
  cases h : ends D k <;> simp [h]
theorem nwt_succ (D : Inp) (k : Nat) : nwt D (k + 1) = cond (!ends D k && (D.sp k).wait) (nwt D k + 1) (nwt D k) := by
  unfold nwt
  rw [List.range_succ, List.filter_append]
  cases h : ends D k <;> cases h2 : (D.sp k).wait <;> simp [h, h2]
theorem nlv_le (D : Inp) (k : Nat) : nlv D k ≤ k := by unfold nlv; exact Nat.le_trans (List.length_filter_le _ _) (by simp)
theorem nwt_le (D : Inp) (k : Nat) : nwt D k ≤ k := by unfold nwt; exact Nat.le_trans (List.length_filter_le _ _) (by simp)
/-- the expected log of the first k -/
def elog (D : Inp) (k : Nat) : List Int := (endl D k).flatMap fun i => cond ((D.sp i).wait && (D.sp i).park) [wrap64 (((i : Int) + 1) * 2)] []
theorem elog_succ (D : Inp) (k : Nat) : elog D (k + 1) = cond (ends D k && ((D.sp k).wait && (D.sp k).park)) (elog D k ++ [wrap64 (((k : Int) + 1) * 2)]) (elog D k) := by
  unfold elog
  rw [endl_succ]
  cases h : ends D k
  · rfl
  · simp only [cond_true, List.flatMap_append, List.flatMap_cons, List.flatMap_nil, List.append_nil, Bool.true_and]
    cases (D.sp k).wait && (D.sp k).park <;> simp
theorem elog_len (D : Inp) (k : Nat) : (elog D k).length ≤ k := by
  induction k with
  | zero => exact Nat.le_refl _
  | succ k ih =>
    rw [elog_succ]
    cases ends D k && ((D.sp k).wait && (D.sp k).park)
    · show (elog D k).length ≤ k + 1; omega
    · show (elog D k ++ _).length ≤ k + 1
      simp
      omega
end Go.Proofs.Ybulkedxc
