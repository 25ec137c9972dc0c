/-
  LawS6515BWhole: statement 37: the error of one that cascades.
-/
import Derived.Test.YbulkedxcX1
namespace Go.Proofs.Ybulkedxc
open Go.RowKit
attribute [local simp] setO_size setT_same
set_option linter.unusedSimpArgs false
set_option linter.unusedVariables false
set_option linter.unnecessarySimpa false

/-- behind the error's check -/
def M131 (D : Inp) (V : Var) (A : Role → Nat) (cap : Nat) (nv nv2 cy2 : Value) (ob k : Nat) (ev : Value) (W : World) : Act → World → Prop := fun a w =>
  ∃ f, a = ⟨frm f, []⟩ ∧ SlB D V A cap nv nv2 cy2 ob k ev f ∧ f 60 = ptr (A (.Ae k)) ∧ Ev D W.heap.size ev k w ∧ Below W.heap.size W w

set_option maxRecDepth 100000 in
set_option maxHeartbeats 3200000 in
theorem piece131b (D : Inp) (V : Var) (A : Role → Nat) (S : Sys) (lx : List Int) (cv : Value) (cap xcap : Nat) (ib : Nat → Nat) (nv nv2 cy2 : Value) (ob k : Nat) (ev : Value) (w0 W w : World) (f : Nat → Value) (hD : InpAt D w0) (hon : D.on ≤ 1024) (hk : k < D.on + 1) (ha : Aft D V A S lx cv xcap ib nv nv2 cy2 ob w0 W) (hb : Below W.heap.size W w) (hev : Ev D W.heap.size ev k w) (sl : SlB D V A cap nv nv2 cy2 ob k ev f) (s60 : f 60 = ptr (A (.Ae k))) (he : ends D k = true) (hk0 : k ≠ 0) :
    (fst_ (tail (down (fst_ (snd_ (down (down (snd_ (fst_ (tail (Yba.f3.body.getD .skip) 37)))))))) 8)).wp Yba.prog (Exit.then (M131 D V A cap nv nv2 cy2 ob k ev W) fun _ _ _ => False) ⟨frm f, []⟩ w := by
  obtain ⟨M, hM⟩ : ∃ M, M = M131 D V A cap nv nv2 cy2 ob k ev W := ⟨_, rfl⟩
  rw [← hM]
  have HM := hid hM
  clear hM
  have hki : (k : Int) < (D.on : Int) + 1 := by omega
  have hkp : (0 : Int) ≤ (k : Int) := by omega
  have hk0i : ((k : Int) == 0) = false := by simp; omega
  have a1 : w.cell? ⟨A (.Ae k), 1, none⟩ = some (.int .i64 D.step) := ha.aAt hb k hk he 1 _ rfl
  have a2 : w.cell? ⟨A (.Ae k), 2, none⟩ = some (.int .u8 4) := ha.aAt hb k hk he 2 _ (by show some (Value.int .u8 (if k = 0 then _ else 4)) = _; rw [if_neg hk0])
  have a3 : w.cell? ⟨A (.Ae k), 3, none⟩ = some (.int .i64 ((k : Int) + 1)) := ha.aAt hb k hk he 3 _ (by show some (Value.int .i64 (if k = 0 then _ else (k : Int) + 1)) = _; rw [if_neg hk0])
  have a4 : w.cell? ⟨A (.Ae k), 4, none⟩ = some (.string ⟨#[]⟩) := ha.aAt hb k hk he 4 _ (by show some (Value.string (if k = 0 then _ else ⟨#[]⟩)) = _; rw [if_neg hk0])
  have a5 : w.cell? ⟨A (.Ae k), 5, none⟩ = some (.string ⟨#[]⟩) := ha.aAt hb k hk he 5 _ (by show some (Value.string (if k = 0 then _ else ⟨#[]⟩)) = _; rw [if_neg hk0])
  have a6 : w.cell? ⟨A (.Ae k), 6, none⟩ = some (.int .u8 8) := ha.aAt hb k hk he 6 _ (by show some (Value.int .u8 (if k = 0 then _ else 8)) = _; rw [if_neg hk0])
  have a7 : w.cell? ⟨A (.Ae k), 7, none⟩ = some (.slice none 0 0) := ha.aAt hb k hk he 7 _ (by show some (if k = 0 then _ else Value.slice none 0 0) = _; rw [if_neg hk0])
  have a8 : w.cell? ⟨A (.Ae k), 8, none⟩ = some (.slice none 0 0) := ha.aAt hb k hk he 8 _ (by show some (if k = 0 then _ else Value.slice none 0 0) = _; rw [if_neg hk0])
  have m7 : V.e7 < W.heap.size := (Array.getElem?_eq_some_iff.1 ha.vars.e7).1
  have z0 : w.cell? ⟨V.e7, 0, none⟩ = some (.int .i64 D.step) := (hb.cell (p := ⟨V.e7, 0, none⟩) m7).trans (cell_of ha.vars.e7 0)
  have n1 := neq_113
  have n2 : ∀ w, _ := fun w => neq_nil w 117 125 none 0 0 0 0 Yba.underlying117
  have n3 : ∀ w, _ := fun w => neq_nil w 25 3 none 0 0 0 0 Yba.underlying25
  simp only [Option.isNone_none, Bool.not_true] at n2 n3
  have HS := hid sl
  have HEV := hid hev
  have HB := hid hb
  have H60 := hid s60
  conv => arg 2; whnf
  unfold frm
  rw [sl.sl.sl.s7, sl.s54, sl.s55, s60]
  unfold ptr
  clear ha hb hev sl s60 hk0 hD
  go_wp2_with fail
  go_quiet (fail)
  go_wp2_with fail
  refine in_frm9 _ (by rfl) ?_
  intro f' hf'
  rw [HM.out]
  refine ⟨f', rfl, HS.out.of (fun i hi => ?_), hf' 60, Ev.keep HEV.out (fun _ _ => rfl), below_drewN HB.out nq⟩
  simp [slL] at hi
  rcases hi with rfl | rfl | rfl | rfl | rfl | rfl | rfl | rfl | rfl | rfl | rfl | rfl | rfl | rfl | rfl | rfl | rfl | rfl | rfl | rfl | rfl | rfl | rfl | rfl | rfl | rfl | rfl <;> first | exact hf' _ | exact (hf' 7).trans HS.out.sl.sl.s7.symm | exact (hf' 54).trans HS.out.s54.symm | exact (hf' 55).trans HS.out.s55.symm
end Go.Proofs.Ybulkedxc
