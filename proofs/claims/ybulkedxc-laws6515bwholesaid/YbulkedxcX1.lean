/-
  LawS6515BWhole: statement 37: the states of a round.
-/
import Derived.Test.YbulkedxcX0
namespace Go.Proofs.Ybulkedxc
open Go.RowKit
attribute [local simp] setO_size setT_same
set_option linter.unusedSimpArgs false
set_option linter.unusedVariables false
set_option linter.unnecessarySimpa false

/-- the frame's slots inside a round -/
structure SlB (D : Inp) (V : Var) (A : Role → Nat) (cap : Nat) (nv nv2 cy2 : Value) (ob k : Nat) (ev : Value) (f : Nat → Value) : Prop where
  sl : Sl3 D V A cap nv nv2 cy2 ob f
  s51 : f 51 = .int .i64 (nlv D k : Nat)
  s52 : f 52 = .int .i64 (nwt D k : Nat)
  s53 : f 53 = ev
  s54 : f 54 = .int .i64 k
  s55 : f 55 = .int .i64 ((k : Int) + 1)
  s56 : f 56 = ptr (A (.U k))
  s57 : f 57 = cond (D.sp k).wait (ptr (A (.Wt k))) (.pointer none)
def slL : List Nat := [1, 7, 11, 12, 13, 15, 16, 17, 18, 19, 22, 23, 24, 25, 26, 27, 34, 38, 39, 40, 51, 52, 53, 54, 55, 56, 57]
theorem SlB.of {D : Inp} {V : Var} {A : Role → Nat} {cap : Nat} {nv nv2 cy2 : Value} {ob k : Nat} {ev : Value} {f f' : Nat → Value} (h : SlB D V A cap nv nv2 cy2 ob k ev f) (e : ∀ i ∈ slL, f' i = f i) : SlB D V A cap nv nv2 cy2 ob k ev f' :=
  ⟨h.sl.of (fun i hi => e i (by simp [slL] at hi ⊢; omega)), (e 51 (by simp [slL])).trans h.s51, (e 52 (by simp [slL])).trans h.s52, (e 53 (by simp [slL])).trans h.s53, (e 54 (by simp [slL])).trans h.s54, (e 55 (by simp [slL])).trans h.s55, (e 56 (by simp [slL])).trans h.s56, (e 57 (by simp [slL])).trans h.s57⟩
/-- the expected log as the law keeps it -/
def Ev (D : Inp) (H : Nat) (ev : Value) (k : Nat) (w : World) : Prop := w.ownsRow H 3 1 ev (elog D k).length ((elog D k).map (Value.int .i64))
/-- behind a round's body -/
def M9 (D : Inp) (V : Var) (A : Role → Nat) (cap : Nat) (nv nv2 cy2 : Value) (ob k : Nat) (W : World) : Act → World → Prop := fun a w =>
  ∃ f ev, a = ⟨frm f, []⟩ ∧ Sl3 D V A cap nv nv2 cy2 ob f ∧ f 51 = .int .i64 (nlv D (k + 1) : Nat) ∧ f 52 = .int .i64 (nwt D (k + 1) : Nat) ∧ f 53 = ev ∧ f 54 = .int .i64 k ∧ Ev D W.heap.size ev (k + 1) w ∧ Below W.heap.size W w
theorem Ev.keep {D : Inp} {H : Nat} {ev : Value} {k : Nat} {w w' : World} (h : Ev D H ev k w) (hb : ∀ b, b < w.heap.size → w'.heap[b]? = w.heap[b]?) : Ev D H ev k w' := row_keep h (fun b e => hb b (row_lt h b e).2)
theorem below_drewN {C : Nat} {w w' : World} (h : Below C w w') (m : Nat) : Below C w (w'.drewN m) := ⟨h.os, h.tape, h.output, h.size, h.block⟩
theorem in_frm9 {M : Act → World → Prop} {w : World} (fr : Array Value) (h : fr.size = 860) (k : ∀ f : Nat → Value, (∀ i, f i = nth fr.toList i) → M ⟨frm f, []⟩ w) : M ⟨fr, []⟩ w := by
  have := k (nth fr.toList) (fun _ => rfl)
  rw [frm_of fr h] at this
  exact this
end Go.Proofs.Ybulkedxc
