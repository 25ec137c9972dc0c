/-
  LawS6515BWhole: statements 0 to 6.
-/
import Derived.Test.YbulkedxcSt
namespace Go.Proofs.Ybulkedxc
open Go.RowKit
attribute [local simp] setO_size setT_same
set_option linter.unusedSimpArgs false
set_option linter.unusedVariables false
set_option linter.unnecessarySimpa false

theorem names_eq (w : World) : Calls Yba.prog 4 #[] w fun e w' => e = .returned (.agg #[.string (nm 0), .string (nm 1), .string (nm 2), .string (nm 3)]) ∧ w' = w.alloc (.cells #[.string (nm 0), .string (nm 1), .string (nm 2), .string (nm 3)] 32) := by
  go_enter Yba.func4, Yba.ntmps4
  go_wp2
  (try simp only [Exit.inBlock, Exit.then])
  refine bodyPost_ret (results_cell_row rfl _ _ w.heap.size 32 _ (0, 0) _ rfl (heap_alloc_new w _) Yba.underlying32 rfl (by kernel_rfl)) rfl ?_
  exact ⟨rfl, rfl⟩

/-- objects laid one behind the other -/
def allocs : World → List Obj → World
  | w, [] => w
  | w, o :: os => allocs (w.alloc o) os
theorem allocs_size : ∀ (os : List Obj) (w : World), (allocs w os).heap.size = w.heap.size + os.length
  | [], w => by simp [allocs]
  | o :: os, w => by
    rw [allocs, allocs_size os]
    simp
    omega
theorem allocs_below : ∀ (os : List Obj) (w : World), Below w.heap.size w (allocs w os)
  | [], w => Below.refl _ _
  | o :: os, w => by
    have h := allocs_below os (w.alloc o)
    have h1 : Below w.heap.size w (w.alloc o) := (Below.refl _ _).alloc (Nat.le_refl _) _
    exact h1.trans ⟨h.os, h.tape, h.output, h.size, fun k hk => h.block k (by simp; omega)⟩
theorem allocs_at : ∀ (os : List Obj) (w : World) (i : Nat), (allocs w os).heap[w.heap.size + i]? = os[i]?
  | [], w, i => by simp [allocs]
  | o :: os, w, 0 => by
    rw [allocs, Nat.add_zero, (allocs_below os (w.alloc o)).block _ (by simp)]
    exact heap_alloc_new w o
  | o :: os, w, i + 1 => by
    have h := allocs_at os (w.alloc o) i
    have e : (w.alloc o).heap.size + i = w.heap.size + (i + 1) := by simp; omega
    rw [e] at h
    rw [allocs, h]
    simp

/-- an empty store -/
def stZ : Array Value := #[
  .int .i32 0, .int .u32 0, .nilIface, .nilIface, .nilIface, .nilIface, .nilIface, .int .i32 0, .int .i64 0, .int .i32 0, .int .i32 0, .int .i64 0,
  .int .i32 0, .int .i32 0, .int .i64 0, .int .i32 0, .int .i32 0, .int .i64 0, .int .i32 0, .int .i32 0, .int .i64 0, .int .i32 0, .int .i32 0, .int .i64 0,
  .int .i32 0, .int .i32 0, .int .i64 0, .int .i32 0, .int .i32 0, .int .i64 0, .int .i32 0, .int .i32 0, .int .i64 0, .int .i32 0, .int .i32 0, .int .i64 0,
  .int .i32 0, .int .i32 0, .int .i64 0, .int .i32 0, .int .i32 0, .int .i64 0, .int .i32 0, .int .i32 0, .int .i64 0, .int .i32 0, .int .i32 0, .int .i64 0,
  .int .i32 0, .int .i32 0, .int .i64 0, .int .i32 0, .int .i32 0, .int .i64 0, .int .i32 0, .int .i32 0, .int .i64 0, .int .i32 0, .int .i32 0, .int .i64 0,
  .int .i32 0, .int .i32 0, .int .i64 0, .int .i32 0, .int .i32 0, .int .i64 0, .int .i32 0, .int .i32 0, .int .i64 0, .int .i32 0, .int .i32 0, .int .i64 0,
  .int .i32 0, .int .i32 0, .int .i64 0, .int .i32 0, .int .i32 0, .int .i64 0, .int .i32 0, .int .i32 0, .int .i64 0, .int .i32 0, .int .i32 0, .int .i64 0,
  .int .i32 0, .int .i32 0, .int .i64 0, .int .i32 0, .int .i32 0, .int .i64 0, .int .i32 0, .int .i32 0, .int .i64 0, .int .i32 0, .int .i32 0, .int .i64 0,
  .int .i32 0, .int .i32 0, .int .i64 0, .int .i32 0, .int .i32 0, .int .i64 0, .int .i32 0, .slice none 0 0, .int .i32 0, .slice none 0 0, .slice none 0 0, .bool false,
  .int .i64 0, .int .i64 0, .map none, .int .i64 0, .map none, .slice none 0 0, .int .i64 0, .slice none 0 0, .slice none 0 0, .slice none 0 0, .slice none 0 0, .int .i64 0,
  .int .i64 0, .int .i64 0, .int .i64 0, .int .i64 0, .int .i64 0, .int .i64 0, .int .i64 0, .slice none 0 0, .int .i64 0, .map none, .int .i32 0, .slice none 0 0]
theorem zero_st : ∃ z : Array Value, (∀ w, (zeroValue 88).run Yba.prog w = .ok (.agg z) w) ∧ z.size = 132 ∧ z[127]? = some (.slice none 0 0) ∧ z[128]? = some (.int .i64 0) ∧ z[129]? = some (.map none) ∧ z[130]? = some (.int .i32 0) ∧ z[131]? = some (.slice none 0 0) :=
  ⟨stZ, fun w => by kernel_rfl, by kernel_rfl, by kernel_rfl, by kernel_rfl, by kernel_rfl, by kernel_rfl, by kernel_rfl⟩

set_option maxRecDepth 100000 in
set_option maxHeartbeats 3200000 in
theorem sec0 (D : Inp) (w : World) (hD : InpAt D w) (Q : Exit → Act → World → Prop) (f : Nat → Value) (a0 : f 0 = .agg D.evA) (a1 : f 1 = .slice D.ca D.cn D.cc) (a2 : f 2 = .agg (spA (D.sp 0))) (a3 : f 3 = .slice D.oa D.on D.oc) (a4 : f 4 = .agg D.bcA) (a5 : f 5 = .agg (four D.rd)) (a6 : f 6 = .agg (four D.wr))
    (h : ∀ f' w' L, Sl D L f' → Pre D L w' → L.Ord w.heap.size w'.heap.size → ItS w'.heap.size w.heap.size L.st 0 0 (.slice none 0 0) #[] w' 0 0 → w'.heap[L.b19]? = some (.cells #[.int .i32 0, .int .i32 0, .int .i32 0, .int .i32 0] 89 (0, 0)) → Old w.heap.size w w' → WpT 7 Q f' w') : WpT 0 Q f w := by
  have HH := hid h
  have hmm := @run_makeMap Yba.prog
  obtain ⟨z, hz, hzs, hz127, hz128, hz129, hz130, hz131⟩ := zero_st
  have h1 : (D.on : Int) ≤ 1024 := by have := hD.onB; omega
  have h2 : (D.nn : Int) ≤ 65536 := by have := hD.nnB; omega
  have h3 : (D.cn : Int) ≤ 65536 := by have := hD.cnB; omega
  clear h hD
  refine sect 0 7 (by kernel_rfl) (by kernel_rfl) ?_
  intro r hr
  have HR := hid hr
  clear hr
  show (Code.seq _ (Code.seq _ (Code.seq _ (Code.seq _ (Code.seq _ (Code.seq _ (Code.seq _ r))))))).wp Yba.prog Q _ _
  unfold frm
  rw [a0, a1, a2, a3, a4, a5, a6]
  unfold Inp.evA spA Inp.bcA four
  go_wp2_with (go_at_call 4; refine (names_eq _).mono ?_; rintro e W1 ⟨rfl, rfl⟩)
  refine leave HR _ (by rfl) ?_
  intro f' hf'
  have sl : Sl D ⟨w.heap.size, w.heap.size + 1, w.heap.size + 2, w.heap.size + 3, w.heap.size + 4, w.heap.size + 6, w.heap.size + 7, w.heap.size + 8, w.heap.size + 9, w.heap.size + 10, w.heap.size + 11, w.heap.size + 12⟩ f' := ⟨hf' 1, hf' 3, hf' 7, hf' 9, hf' 11, hf' 12, hf' 13, hf' 15, hf' 16, hf' 17, hf' 18, hf' 19⟩
  clear hf'
  change WpT 7 Q f' (allocs w [_, _, _, _, _, _, _, _, _, _, _, _, _])
  generalize hW : allocs w _ = W
  have at_ := fun i => (congrArg (fun x : World => x.heap[w.heap.size + i]?) hW).symm.trans (allocs_at _ w i)
  have hsz := (congrArg (fun x : World => x.heap.size) hW).symm.trans (allocs_size _ w)
  have hB : Below w.heap.size w W := by rw [← hW]; exact allocs_below _ w
  clear hW
  simp only [List.length_cons, List.length_nil] at hsz
  obtain ⟨st, hst⟩ : ∃ st, W.heap[w.heap.size + 11]? = some (.cells st 88 (0, 0)) ∧ st[2]? = some (.iface 34 (ptr (w.heap.size + 7))) ∧ st[6]? = some (.iface 37 (ptr (w.heap.size + 8))) ∧ st[110]? = some (.map (some (w.heap.size + 9))) ∧ st[112]? = some (.map (some (w.heap.size + 10))) ∧ (∀ k, k < 8 → st[119 + k]? = some (.int .i64 (D.bc k))) ∧
      st[127]? = some (.slice none 0 0) ∧ st[128]? = some (.int .i64 0) ∧ st[129]? = some (.map none) ∧ st[130]? = some (.int .i32 0) ∧ st[131]? = some (.slice none 0 0) := by
    refine ⟨_, at_ 11, ?_, ?_, ?_, ?_, ?_, ?_, ?_, ?_, ?_, ?_⟩
    · simp [Array.getElem?_setIfInBounds, hzs, ptr]
    · simp [Array.getElem?_setIfInBounds, hzs, ptr]
    · simp [Array.getElem?_setIfInBounds, hzs, ptr]
    · simp [Array.getElem?_setIfInBounds, hzs, ptr]
    · intro k hk
      match k, hk with
      | 0, _ => simp [Array.getElem?_setIfInBounds, hzs]
      | 1, _ => simp [Array.getElem?_setIfInBounds, hzs]
      | 2, _ => simp [Array.getElem?_setIfInBounds, hzs]
      | 3, _ => simp [Array.getElem?_setIfInBounds, hzs]
      | 4, _ => simp [Array.getElem?_setIfInBounds, hzs]
      | 5, _ => simp [Array.getElem?_setIfInBounds, hzs]
      | 6, _ => simp [Array.getElem?_setIfInBounds, hzs]
      | 7, _ => simp [Array.getElem?_setIfInBounds, hzs]
    · simp [Array.getElem?_setIfInBounds, hz127]
    · simp [Array.getElem?_setIfInBounds, hz128]
    · simp [Array.getElem?_setIfInBounds, hz129]
    · simp [Array.getElem?_setIfInBounds, hz130]
    · simp [Array.getElem?_setIfInBounds, hz131]
  obtain ⟨t0, t2, t6, t110, t112, tc, t127, t128, t129, t130, t131⟩ := hst
  have hc : ∀ k, W.cell? ⟨w.heap.size + 11, k, none⟩ = st[k]? := fun k => by simp [World.cell?, t0]
  refine HH.out f' W ⟨w.heap.size, w.heap.size + 1, w.heap.size + 2, w.heap.size + 3, w.heap.size + 4, w.heap.size + 6, w.heap.size + 7, w.heap.size + 8, w.heap.size + 9, w.heap.size + 10, w.heap.size + 11, w.heap.size + 12⟩ sl ?_ ?_ ?_ (at_ 12) (Old.of_below hB (Nat.le_refl _))
  · exact ⟨at_ 0, at_ 1, at_ 2, at_ 3, at_ 4, at_ 6, at_ 7, at_ 8, at_ 9, at_ 10, (hc 2).trans t2, (hc 6).trans t6, (hc 110).trans t110, (hc 112).trans t112, fun k hk => (hc _).trans (tc k hk)⟩
  · constructor <;> simp <;> omega
  · refine ⟨by simp; omega, Nat.le_refl _, by omega, (hc 127).trans t127, (hc 128).trans t128, (hc 129).trans t129, (hc 130).trans t130, (hc 131).trans t131, ?_, ⟨rfl, Or.inl ⟨rfl, rfl⟩⟩, ?_, ?_, ?_, ?_, ?_⟩
    · intro k; simp [World.frozen?, t0]
    all_goals (intro h; omega)
end Go.Proofs.Ybulkedxc
