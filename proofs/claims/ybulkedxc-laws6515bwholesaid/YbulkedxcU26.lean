/-
  LawS6515BWhole: statements 26 and 27.
-/
import Derived.Test.YbulkedxcT21
namespace Go.Proofs.Ybulkedxc
open Go.RowKit
attribute [local simp] setO_size setT_same
set_option linter.unusedSimpArgs false
set_option linter.unusedVariables false
set_option linter.unnecessarySimpa false

theorem Sl3.of {D : Inp} {V : Var} {A : Role → Nat} {cap : Nat} {nv nv2 cy2 : Value} {ob : Nat} {f f' : Nat → Value} (h : Sl3 D V A cap nv nv2 cy2 ob f) (e : ∀ i ∈ [1, 7, 11, 12, 13, 15, 16, 17, 18, 19, 22, 23, 24, 25, 26, 27, 34, 38, 39, 40], f' i = f i) : Sl3 D V A cap nv nv2 cy2 ob f' :=
  ⟨⟨(e 1 (by simp)).trans h.sl.s1, (e 7 (by simp)).trans h.sl.s7, (e 11 (by simp)).trans h.sl.s11, (e 12 (by simp)).trans h.sl.s12, (e 13 (by simp)).trans h.sl.s13, (e 15 (by simp)).trans h.sl.s15, (e 16 (by simp)).trans h.sl.s16, (e 17 (by simp)).trans h.sl.s17, (e 18 (by simp)).trans h.sl.s18, (e 19 (by simp)).trans h.sl.s19, (e 22 (by simp)).trans h.sl.s22, (e 23 (by simp)).trans h.sl.s23, (e 24 (by simp)).trans h.sl.s24, (e 25 (by simp)).trans h.sl.s25, (e 26 (by simp)).trans h.sl.s26⟩, (e 27 (by simp)).trans h.s27, (e 34 (by simp)).trans h.s34, (e 38 (by simp)).trans h.s38, (e 39 (by simp)).trans h.s39, (e 40 (by simp)).trans h.s40⟩

theorem Aft.cells {D : Inp} {V : Var} {A : Role → Nat} {S : Sys} {lx : List Int} {cv : Value} {xcap : Nat} {ib : Nat → Nat} {nv nv2 cy2 : Value} {ob : Nat} {w0 W : World} (h : Aft D V A S lx cv xcap ib nv nv2 cy2 ob w0 W) (r : Role) (k : Nat) (v : Value) (hm : mem A (envOf D (D.on + 1) cv xcap) S r k = some v) : W.cell? ⟨A r, k, none⟩ = some v := (h.rep.rep.cell r k v hm).2.1

set_option maxRecDepth 100000 in
set_option maxHeartbeats 3200000 in
theorem sec26 (D : Inp) (V : Var) (A : Role → Nat) (S : Sys) (lx : List Int) (cv : Value) (cap xcap : Nat) (ib : Nat → Nat) (nv nv2 cy2 : Value) (ob : Nat) (w0 W : World) (Q : Exit → Act → World → Prop) (f : Nat → Value) (hD : InpAt D w0) (sl : Sl3 D V A cap nv nv2 cy2 ob f) (ha : Aft D V A S lx cv xcap ib nv nv2 cy2 ob w0 W)
    (h : ∀ f' m, Sl3 D V A cap nv nv2 cy2 ob f' → WpT 28 Q f' (W.drewN m)) : WpT 26 Q f W := by
  have HH := hid h
  have z1 : W.cell? ⟨A .sch, 1, none⟩ = some (.int .i64 1) := by rw [← ha.cas]; exact ha.cells .sch 1 _ rfl
  have z2 : W.cell? ⟨A .sch, 2, none⟩ = some (.int .i64 0) := ha.cells .sch 2 _ rfl
  have v0 : W.cell? ⟨A .vs, 0, none⟩ = some (.int .i64 0) := ha.cells .vs 0 _ rfl
  obtain ⟨b, d, rfl, hcy⟩ := ha.cyc
  have heq := equal_same D.ca b D.cn D.cc d D.cx W hD.cycLen (by have := hD.cnB; omega) (fun k x hx => by
    obtain ⟨a, h1, h2, h3⟩ := hD.cyc k x hx
    exact ⟨a, h1, (ha.old.cell (by rw [add_block]; exact h2)).trans h3⟩) hcy
  have HE := hid heq
  have HS := hid sl
  clear h hD heq hcy
  refine sect 26 2 (by kernel_rfl) (by kernel_rfl) ?_
  intro r hr
  have HR := hid hr
  clear hr
  show (Code.seq _ (Code.seq _ r)).wp Yba.prog Q _ _
  unfold frm
  rw [sl.sl.s1, sl.sl.s16, sl.sl.s17, sl.s39]
  unfold ptr
  clear sl ha
  go_wp2_with (go_at_call 11; refine HE.out.mono ?_; rintro e W1 ⟨rfl, m, rfl⟩)
  refine leave HR _ (by rfl) ?_
  intro f' hf'
  refine HH.out f' _ ⟨⟨hf' 1, (hf' 7).trans HS.out.sl.s7, (hf' 11).trans HS.out.sl.s11, (hf' 12).trans HS.out.sl.s12, (hf' 13).trans HS.out.sl.s13, (hf' 15).trans HS.out.sl.s15, hf' 16, hf' 17, (hf' 18).trans HS.out.sl.s18, (hf' 19).trans HS.out.sl.s19, (hf' 22).trans HS.out.sl.s22, (hf' 23).trans HS.out.sl.s23, (hf' 24).trans HS.out.sl.s24, (hf' 25).trans HS.out.sl.s25, (hf' 26).trans HS.out.sl.s26⟩, (hf' 27).trans HS.out.s27, (hf' 34).trans HS.out.s34, (hf' 38).trans HS.out.s38, hf' 39, (hf' 40).trans HS.out.s40⟩
end Go.Proofs.Ybulkedxc
