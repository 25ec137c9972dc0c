/-
  LawS6519CWhole: Replacer.build, walked.
-/
import Derived.Test.YbulkedzgBuild
import Derived.Lib.SliceRun
namespace Go.Proofs.Ybulkedzg
open Go.RowKit

/-- the six strings handed to NewReplacer -/
structure SrcAt (W : World) (g : Nat) : Prop where
  lt : g < W.heap.size
  c0 : W.cell? ⟨g, 0, none⟩ = some (.string ⟨#[92]⟩)
  c1 : W.cell? ⟨g, 1, none⟩ = some (.string ⟨#[92, 92]⟩)
  c2 : W.cell? ⟨g, 2, none⟩ = some (.string ⟨#[34]⟩)
  c3 : W.cell? ⟨g, 3, none⟩ = some (.string ⟨#[92, 34]⟩)
  c4 : W.cell? ⟨g, 4, none⟩ = some (.string ⟨#[10]⟩)
  c5 : W.cell? ⟨g, 5, none⟩ = some (.string ⟨#[92, 110]⟩)
theorem SrcAt.later {W W' : World} {g : Nat} (h : SrcAt W g) (hb : Below W.heap.size W W') : SrcAt W' g :=
  ⟨by have := hb.size; have := h.lt; omega, (hb.cell (p := ⟨g, 0, none⟩) h.lt).trans h.c0, (hb.cell (p := ⟨g, 1, none⟩) h.lt).trans h.c1, (hb.cell (p := ⟨g, 2, none⟩) h.lt).trans h.c2,
    (hb.cell (p := ⟨g, 3, none⟩) h.lt).trans h.c3, (hb.cell (p := ⟨g, 4, none⟩) h.lt).trans h.c4, (hb.cell (p := ⟨g, 5, none⟩) h.lt).trans h.c5⟩

theorem eql_nil (W : World) : (binOp .eql 26 (.slice none 0 0) (.slice none 0 0)).run Yba.prog W = .ok (.bool true) W := Lib.run_eql_slice_nil W 26 5 none 0 0 0 0 Yba.underlying26

/-- append by its run equation -/
theorem wpList_append_run {P : Program} {w : World} {ops : Array Oper} {rest : List Oper} {o : Oper} {a : Act} {Q : Exit → Act → World → Prop} (hgd : o.guard = none) (s x : Operand) (t : TypeId)
    (ho : o.op = .call { callee := .builtin .append, args := #[s, x], argTypes := #[t, t] }) (v1 v2 v' : Value) (hs : a.eval s = v1) (hx : a.eval x = v2) (W' : World)
    (hr : ∀ ty, (Builtin.append_ #[t, t] ty #[v1, v2]).run P w = .ok v' W') (h : wpList P ops Q rest (a.put o.dst v') W') : wpList P ops Q (o :: rest) a w := by
  refine wpList_plain hgd fun _ hK => ?_
  unfold Oper.wp execOp
  simp only [ho, resolve, invoke, builtin, Sem.run_bind, Sem.run_pure, Result.andThen_ok, List.map_toArray, List.map_cons, List.map_nil, hs, hx, hr]
  exact hK _ _ h

theorem z61 : Yba.zeroCells61 = Array.replicate 257 (.slice none 0 0) := by kernel_rfl

/-- the state ahead of the last loop -/
theorem start_facts (w : World) : ∃ W, (storeCells ⟨w.heap.size + 1, 0, none⟩ (Yba.zeroCells61.toList.set 256 (.slice (some ⟨w.heap.size, 0, none⟩) 0 3))).run Yba.prog ((w.alloc (.cells (tsOf 0) 9)).alloc (.cells Yba.zeroCells61 61)) = .ok () W ∧ St w W 0 := by
  obtain ⟨cs, hcs⟩ : ∃ cs : Array Value, cs = Yba.zeroCells61.setIfInBounds 256 (.slice (some ⟨w.heap.size, 0, none⟩) 0 3) := ⟨_, rfl⟩
  have hsz : cs.size = 257 := by rw [hcs, z61]; simp
  have el : ∀ i (h : i < Yba.zeroCells61.size), Yba.zeroCells61[i] = .slice none 0 0 := by
    rw [z61]
    intro i h
    exact Array.getElem_replicate ..
  have hall : cs.all (·.oneCell') = true := by
    rw [Array.all_eq_true]
    intro i hi
    by_cases h : 256 = i
    · have e : cs[i]? = some (.slice (some ⟨w.heap.size, 0, none⟩) 0 3) := by rw [hcs, ← h, Array.getElem?_setIfInBounds_self_of_lt (by rw [z61]; simp)]
      rw [(Array.getElem?_eq_some_iff.1 e).2]; rfl
    · have e : cs[i]? = some (.slice none 0 0) := by rw [hcs, Array.getElem?_setIfInBounds_ne h, Array.getElem?_eq_getElem (by rw [z61]; simp; omega), el]
      rw [(Array.getElem?_eq_some_iff.1 e).2]; rfl
  have h := run_storeCells_new (P := Yba.prog) (w.alloc (.cells (tsOf 0) 9)) 61 Yba.zeroCells61 cs (by rw [hsz]; kernel_rfl) (by rw [hsz, z61]; simp) hall
  rw [show cs.toList = Yba.zeroCells61.toList.set 256 (.slice (some ⟨w.heap.size, 0, none⟩) 0 3) from by rw [hcs]; simp] at h
  refine ⟨_, by simpa using h, ?_⟩
  have b1 : Below w.heap.size w (w.alloc (.cells (tsOf 0) 9)) := (Below.refl _ _).alloc (Nat.le_refl _) _
  refine ⟨b1.alloc (by simp) _, by simp, ?_, ⟨cs, ?_, hsz, ?_, ?_, ?_⟩⟩
  · refine (heap_alloc_old _ _ ?_).trans ?_
    · simp
    exact heap_alloc_last w _
  · have := heap_alloc_last (w.alloc (.cells (tsOf 0) 9)) (.cells cs 61)
    simpa using this
  · rw [hcs, Array.getElem?_setIfInBounds_self_of_lt (by rw [z61]; simp)]
  · intro i hi _
    rw [hcs, Array.getElem?_setIfInBounds_ne (by omega), Array.getElem?_eq_getElem (by rw [z61]; simp; omega), el]
  · intro j hj; omega

set_option maxRecDepth 100000 in
set_option maxHeartbeats 3200000 in
theorem build_any (p g c : Nat) (w : World) (hp : w.cell? ⟨p, 4, none⟩ = some (.slice (some ⟨g, 0, none⟩) 6 c)) (hg : SrcAt w g) :
    Calls Yba.prog 12 #[.pointer (some ⟨p, 0, none⟩)] w fun e w' => e = .returned (.iface 62 (.pointer (some ⟨w.heap.size + 1, 0, none⟩))) ∧ (Below w.heap.size w w' ∧ RepAt w' w.heap.size (w.heap.size + 1)) := by
  have HG : Hid (SrcAt w g) := hg
  obtain ⟨_, c0, c1, c2, c3, c4, c5⟩ := hg
  have hmk := make3 w
  obtain ⟨W1, hst, hS0⟩ := start_facts w
  have HS0 : Hid (St w W1 0) := hS0
  clear hS0
  go_enter Yba.func12, Yba.ntmps12
  go_wp2_with fail
  refine wp_loop_rounds 4 ?_
  rw [rounds_succ]
  go_wp2_with fail
  rw [rounds_succ]
  go_wp2_with fail
  rw [rounds_succ]
  go_wp2_with fail
  rw [rounds_succ]
  go_wp2_with fail
  obtain ⟨Wc1, We1, cap1, a1, a2, a3, a4, a5, a6, a7, a8, a9, hS1⟩ := round_facts' 0 1 rfl (by omega) 10 110 10 10 rfl rfl rfl rfl HS0.out
  have HS1 : Hid (St w (We1.setCell ⟨w.heap.size + 1, 10, none⟩ (.slice (some ⟨W1.heap.size + 2, 0, none⟩) 2 cap1)) 1) := hS1
  have hg1 := HG.out.later HS0.out.bel
  obtain ⟨_, d0, d1, d2, d3, d4, d5⟩ := hg1
  have hen := eql_nil
  have i10 : ∀ h, ((ByteArray.mk #[10])[0]'h).toNat = 10 := fun _ => rfl
  have i34 : ∀ h, ((ByteArray.mk #[34])[0]'h).toNat = 34 := fun _ => rfl
  have i92 : ∀ h, ((ByteArray.mk #[92])[0]'h).toNat = 92 := fun _ => rfl
  clear hS1 hst hmk c0 c1 c2 c3 c4 c5 hp
  refine wp_loop_rounds 4 ?_
  rw [rounds_succ]
  go_wp2_with (at_builtin; refine wpList_append_run rfl (.tmp 119) (.tmp 123) 27 rfl _ _ _ rfl rfl Wc1 a4 ?_)
  generalize We1.setCell _ _ = W2 at HS1 ⊢
  clear a1 a2 a3 a4 a5 a6 a7 a8 a9 d0 d1 d2 d3 d4 d5 HS0
  obtain ⟨Wc2, We2, cap2, a1, a2, a3, a4, a5, a6, a7, a8, a9, hS2⟩ := round_facts' 1 2 rfl (by omega) 34 34 34 34 rfl rfl rfl rfl HS1.out
  have HS2 : Hid (St w (We2.setCell ⟨w.heap.size + 1, 34, none⟩ (.slice (some ⟨W2.heap.size + 2, 0, none⟩) 2 cap2)) 2) := hS2
  have hg2 := HG.out.later HS1.out.bel
  obtain ⟨_, d0, d1, d2, d3, d4, d5⟩ := hg2
  clear hS2
  rw [rounds_succ]
  go_wp2_with (at_builtin; refine wpList_append_run rfl (.tmp 119) (.tmp 123) 27 rfl _ _ _ rfl rfl Wc2 a4 ?_)
  generalize We2.setCell _ _ = W3 at HS2 ⊢
  clear a1 a2 a3 a4 a5 a6 a7 a8 a9 d0 d1 d2 d3 d4 d5 HS1
  obtain ⟨Wc3, We3, cap3, a1, a2, a3, a4, a5, a6, a7, a8, a9, hS3⟩ := round_facts' 2 3 rfl (by omega) 92 92 92 92 rfl rfl rfl rfl HS2.out
  have HS3 : Hid (St w (We3.setCell ⟨w.heap.size + 1, 92, none⟩ (.slice (some ⟨W3.heap.size + 2, 0, none⟩) 2 cap3)) 3) := hS3
  have hg3 := HG.out.later HS2.out.bel
  obtain ⟨_, d0, d1, d2, d3, d4, d5⟩ := hg3
  clear hS3
  rw [rounds_succ]
  go_wp2_with (at_builtin; refine wpList_append_run rfl (.tmp 119) (.tmp 123) 27 rfl _ _ _ rfl rfl Wc3 a4 ?_)
  generalize We3.setCell _ _ = W4 at HS3 ⊢
  clear a1 a2 a3 a4 a5 a6 a7 a8 a9 d0 d1 d2 d3 d4 d5 HS2
  rw [rounds_succ]
  go_wp2
  go_ret
  exact ⟨rfl, HS3.out.bel, HS3.out.rep⟩
end Go.Proofs.Ybulkedzg
