/-
  LawS6515BWhole: statements 29 to 33: the counts.
-/
import Derived.Test.YbulkedxcU26
import Derived.Test.YbulkedxcEq
namespace Go.Proofs.Ybulkedxc
open Go.RowKit
attribute [local simp] setO_size setT_same
set_option linter.unusedSimpArgs false
set_option linter.unusedVariables false
set_option linter.unnecessarySimpa false

/-- those of the first k that end -/
def endl (D : Inp) (k : Nat) : List Nat := (List.range k).filter (ends D)
theorem endl_succ (D : Inp) (k : Nat) : endl D (k + 1) = cond (ends D k) (endl D k ++ [k]) (endl D k) := by
  unfold endl
  rw [List.range_succ, List.filter_append]
  cases h : ends D k <;> simp [h]
theorem endl_all (D : Inp) (k : Nat) : endl D (k + 1) = 0 :: clOf D (k + 1) := by
  induction k with
  | zero => rfl
  | succ k ih =>
    rw [endl_succ, ih]
    unfold clOf
    rw [List.range_succ (n := k + 1), List.filter_append]
    cases h : (D.sp (k + 1)).casc <;> simp [ends, h]
/-- the expected counts -/
def xA (D : Inp) (ck ra : Int) : Array Value := #[.int .i64 (D.bc 0), .int .i64 (wrap64 (D.bc 1 + ((clOf D (D.on + 1)).length : Nat))), .int .i64 (D.bc 2), .int .i64 (D.bc 3), .int .i64 (D.bc 4), .int .i64 ck, .int .i64 ra, .int .i64 (D.bc 7)]
theorem abN_wrap (x : Int) (hx : -9223372036854775808 ≤ x ∧ x < 9223372036854775808) : ∀ n : Nat, abN x n = wrap64 (x + n)
  | 0 => by
    show x = wrap64 (x + (0 : Nat))
    unfold wrap64
    omega
  | n + 1 => by
    show wrap64 (abN x n + 1) = _
    rw [abN_wrap x hx n]
    unfold wrap64
    omega

set_option maxRecDepth 100000 in
set_option maxHeartbeats 3200000 in
theorem sec29 (D : Inp) (V : Var) (A : Role → Nat) (S : Sys) (lx : List Int) (cv : Value) (cap xcap : Nat) (ib : Nat → Nat) (nv nv2 cy2 : Value) (ob : Nat) (w0 W w : World) (Q : Exit → Act → World → Prop) (f : Nat → Value) (hD : InpAt D w0) (sl : Sl3 D V A cap nv nv2 cy2 ob f) (ha : Aft D V A S lx cv xcap ib nv nv2 cy2 ob w0 W) (hb : Below W.heap.size W w)
    (h : ∀ f' w' xb, Sl3 D V A cap nv nv2 cy2 ob f' → f' 45 = ptr xb → W.heap.size ≤ xb → w'.heap[xb]? = some (.cells (xA D (D.bc 5) (D.bc 6)) 30 (0, 0)) → Below W.heap.size W w' → WpT 31 Q f' w') : WpT 29 Q f w := by
  have HH := hid h
  have m11 : V.b11 < W.heap.size := (Array.getElem?_eq_some_iff.1 ha.vars.b11).1
  have c : ∀ k, w.cell? ⟨V.b11, k, none⟩ = D.bcA[k]? := fun k => (hb.cell (p := ⟨V.b11, k, none⟩) m11).trans (cell_of ha.vars.b11 k)
  have c0 : w.cell? ⟨V.b11, 0, none⟩ = some (.int .i64 (D.bc 0)) := c 0
  have c1 : w.cell? ⟨V.b11, 1, none⟩ = some (.int .i64 (D.bc 1)) := c 1
  have c2 : w.cell? ⟨V.b11, 2, none⟩ = some (.int .i64 (D.bc 2)) := c 2
  have c3 : w.cell? ⟨V.b11, 3, none⟩ = some (.int .i64 (D.bc 3)) := c 3
  have c4 : w.cell? ⟨V.b11, 4, none⟩ = some (.int .i64 (D.bc 4)) := c 4
  have c5 : w.cell? ⟨V.b11, 5, none⟩ = some (.int .i64 (D.bc 5)) := c 5
  have c6 : w.cell? ⟨V.b11, 6, none⟩ = some (.int .i64 (D.bc 6)) := c 6
  have c7 : w.cell? ⟨V.b11, 7, none⟩ = some (.int .i64 (D.bc 7)) := c 7
  have HB := hid hb
  have HS := hid sl
  clear h c ha hb
  refine sect 29 2 (by kernel_rfl) (by kernel_rfl) ?_
  intro r hr
  have HR := hid hr
  clear hr
  show (Code.seq _ (Code.seq _ r)).wp Yba.prog Q _ _
  unfold frm
  rw [sl.sl.s11, sl.s27]
  unfold ptr
  clear sl
  go_wp2_with fail
  refine leave HR _ (by rfl) ?_
  intro f' hf'
  refine HH.out f' _ w.heap.size (HS.out.of (fun i hi => ?_)) (hf' 45) HB.out.size ?_ (HB.out.alloc HB.out.size _)
  · simp at hi
    rcases hi with rfl | rfl | rfl | rfl | rfl | rfl | rfl | rfl | rfl | rfl | rfl | rfl | rfl | rfl | rfl | rfl | rfl | rfl | rfl | rfl <;> first | exact hf' _ | exact (hf' 11).trans HS.out.sl.s11.symm | exact (hf' 27).trans HS.out.s27.symm
  · have := heap_alloc_new w (.cells (xA D (D.bc 5) (D.bc 6)) 30)
    exact this
end Go.Proofs.Ybulkedxc
