/-
  LawS6515BWhole: statements 18 to 20: the notes.
-/
import Derived.Test.YbulkedxcSe
namespace Go.Proofs.Ybulkedxc
open Go.RowKit
attribute [local simp] setO_size setT_same
set_option linter.unusedSimpArgs false
set_option linter.unusedVariables false
set_option linter.unnecessarySimpa false

theorem Rd.below {D : Inp} {V : Var} {A : Role → Nat} {cv : Value} {xcap k : Nat} {w0 w w' : World} (h : Rd D V A cv xcap k w0 w) (hb : Below w.heap.size w w') : Rd D V A cv xcap k w0 w' := by
  have hvl := vall_lt h.vars h.arr
  have hcl := row_lt h.cv.own
  refine ⟨h.vars.keep (fun b hm _ _ _ => hb.block b (hvl b hm)) h.apart.nodup, h.arr.keep (fun b hm => hb.block b (hvl b hm)), h.rep.below hb, h.apart, ⟨row_keep h.cv.own (fun b e => hb.block b (hcl b e).2), h.cv.var, h.cv.role⟩, h.old.trans ⟨hb.os, hb.output, hb.size, fun b hlb => hb.block b (by have := h.rep.base; omega)⟩⟩

/-- the notes as the law makes them; Hs: the heap's size ahead of them -/
structure Nt (D : Inp) (Hs : Nat) (ib : Nat → Nat) (nv : Value) (k : Nat) (w : World) : Prop where
  own : w.ownsRow Hs 125 1 nv k ((List.range k).map (noteV ⟨D.np, D.nit, D.nvl, ib⟩))
  nil : D.na = none → nv = .slice none 0 0
  some_ : D.na ≠ none → nv ≠ .slice none 0 0
  ptr : ∀ j, j < k → D.np j = true → Hs ≤ ib j ∧ w.heap[ib j]? = some (.cells #[.string (D.nit j), .int .i64 (D.nvl j)] 121 (0, 0)) ∧ nv.ownBlock ≠ some (ib j)

theorem neq_nil (w : World) (t e : TypeId) (a : Option Addr) (n c n' c' : Nat) (h : Yba.prog.underlying t = some (.slice e)) : (binOp .neq t (.slice a n c) (.slice none n' c')).run Yba.prog w = .ok (.bool (!a.isNone)) w := by
  simp only [binOp]
  simp [Op.equal, Op.maxDepth, Lib.run_equalIn_slice_nil w 9999 t e a n c n' c' h]

set_option maxRecDepth 100000 in
set_option maxHeartbeats 3200000 in
theorem sec18 (D : Inp) (V : Var) (A : Role → Nat) (cap : Nat) (w0 w : World) (Q : Exit → Act → World → Prop) (f : Nat → Value) (hnn : D.nn ≤ 65536) (hnil : D.na = none → D.nn = 0 ∧ D.nc = 0) (sl : Sl2 D V A cap f) (hvars : Vars D V w)
    (h : ∀ f' w' nv, Sl2 D V A cap f' → f' 27 = f 27 → f' 34 = nv → Nt D w.heap.size (fun _ => 0) nv 0 w' → Below w.heap.size w w' → WpT 20 Q f' w') : WpT 18 Q f w := by
  have HH := hid h
  have hnn' : (D.nn : Int) ≤ 65536 := by omega
  have hnn0 : (0 : Int) ≤ (D.nn : Int) := by omega
  obtain ⟨i0, hi, hz0, hz1, hz2⟩ := info_parts info125
  have z6 : w.cell? ⟨V.e7, 6, none⟩ = some (.slice D.na D.nn D.nc) := cell_of hvars.e7 6
  have hq := neq_nil w 22 119 D.na D.nn D.nc 0 0 Yba.underlying22
  clear h hvars
  refine sect 18 2 (by kernel_rfl) (by kernel_rfl) ?_
  intro r hr
  have HR := hid hr
  clear hr
  show (Code.seq _ (Code.seq _ r)).wp Yba.prog Q _ _
  unfold frm
  rw [sl.s7]
  unfold ptr
  cases hna : D.na with
  | none =>
    rw [hna] at z6 hq
    simp only [Option.isNone_none, Bool.not_true] at hq
    go_wp2_with fail
    refine leave HR _ (by rfl) ?_
    intro f' hf'
    exact HH.out f' w _ ⟨(hf' 1).trans sl.s1, hf' 7, (hf' 11).trans sl.s11, (hf' 12).trans sl.s12, (hf' 13).trans sl.s13, (hf' 15).trans sl.s15, (hf' 16).trans sl.s16, (hf' 17).trans sl.s17, (hf' 18).trans sl.s18, (hf' 19).trans sl.s19, (hf' 22).trans sl.s22, (hf' 23).trans sl.s23, (hf' 24).trans sl.s24, (hf' 25).trans sl.s25, (hf' 26).trans sl.s26⟩ (hf' 27) (hf' 34) ⟨⟨rfl, Or.inl ⟨rfl, rfl⟩⟩, fun _ => rfl, fun e => absurd hna e, fun j hj => absurd hj (Nat.not_lt_zero _)⟩ (Below.refl _ _)
  | some na =>
    rw [hna] at z6 hq
    simp only [Option.isNone_some, Bool.not_false] at hq
    have hmk := run_make (P := Yba.prog) w 117 125 i0 _ Yba.underlying117 hi hz0 .i64 .i64 0 (D.nn : Int) (by omega) (by omega) (by rw [hz2]; omega) (by omega)
    rw [hz1] at hmk
    simp only [Int.toNat_zero, Int.toNat_natCast, Nat.mul_one] at hmk
    go_wp2_with fail
    refine leave HR _ (by rfl) ?_
    intro f' hf'
    refine HH.out f' _ _ ⟨(hf' 1).trans sl.s1, hf' 7, (hf' 11).trans sl.s11, (hf' 12).trans sl.s12, (hf' 13).trans sl.s13, (hf' 15).trans sl.s15, (hf' 16).trans sl.s16, (hf' 17).trans sl.s17, (hf' 18).trans sl.s18, (hf' 19).trans sl.s19, (hf' 22).trans sl.s22, (hf' 23).trans sl.s23, (hf' 24).trans sl.s24, (hf' 25).trans sl.s25, (hf' 26).trans sl.s26⟩ (hf' 27) (hf' 34) ⟨⟨rfl, Or.inr ⟨w.heap.size, D.nn, _, rfl, Nat.le_refl _, heap_alloc_new _ _, Nat.zero_le _, by unfold maxLen; omega, ?_, rfl⟩⟩, fun e => ?_, fun _ => ?_, fun j hj => absurd hj (Nat.not_lt_zero _)⟩ ((Below.refl _ _).alloc (Nat.le_refl _) _)
    · rw [size_madeCells]; omega
    · rw [hna] at e; cases e
    · intro e; cases e
end Go.Proofs.Ybulkedxc
