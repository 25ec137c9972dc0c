/-
  LawS6515BWhole: the law, joined.
-/
import Derived.Test.YbulkedxcS0
import Derived.Test.YbulkedxcT20
import Derived.Test.YbulkedxcT22
import Derived.Test.YbulkedxcU28
import Derived.Test.YbulkedxcU31
import Derived.Test.YbulkedxcU34
import Derived.Test.YbulkedxcX7
import Derived.Test.YbulkedxcX8
namespace Go.Proofs.Ybulkedxc
open Go.RowKit
attribute [local simp] setO_size setT_same
set_option linter.unusedSimpArgs false
set_option linter.unusedVariables false
set_option linter.unnecessarySimpa false

/-- from the first statement to the last -/
theorem law_wp (D : Inp) (w0 : World) (Q : Exit → Act → World → Prop) (f : Nat → Value) (hD : InpAt D w0) (hna : D.na = none → D.nn = 0 ∧ D.nc = 0) (hoa : D.oa = none → D.on = 0 ∧ D.oc = 0) (a0 : f 0 = .agg D.evA) (a1 : f 1 = .slice D.ca D.cn D.cc) (a2 : f 2 = .agg (spA (D.sp 0))) (a3 : f 3 = .slice D.oa D.on D.oc) (a4 : f 4 = .agg D.bcA) (a5 : f 5 = .agg (four D.rd)) (a6 : f 6 = .agg (four D.wr))
    (hQ : ∀ f' w', f' 14 = .bool true → Old w0.heap.size w0 w' → Q .ret ⟨frm f', []⟩ w') : WpT 0 Q f w0 := by
  refine sec0 D w0 hD Q f a0 a1 a2 a3 a4 a5 a6 ?_
  intro f1 w1 L sl1 hp1 ho hit1 hx1 hold1
  refine sec7 D L w0 w1 w1.heap.size Q f1 sl1 hp1 ho hit1 hx1 hold1 ?_
  intro f2 w2 s l xv zs sl2 hp2 hit2 hx2 hold2
  obtain ⟨g, xcap, cs0, rfl, htab⟩ := hit2.tab (D := D)
  refine sec8 D L w0 w2 w1.heap.size s l g xcap zs cs0 Q f2 sl2 hp2 ho htab hx2 hold2 ?_
  intro f3 w3 cs sl3 hp3 htab3 hx3 hold3
  have hN3 : w1.heap.size ≤ w3.heap.size := by
    have h1 := htab3.gN
    have h2 := (Array.getElem?_eq_some_iff.1 htab3.gH).1
    omega
  refine sec9 D L w0 w3 w1.heap.size s l g xcap zs cs Q f3 hD hoa sl3 hp3 ho htab3 hx3 hN3 hold3 ?_
  intro f4 w4 V A0 cap sl4 h27 hv4 harr4 hrep4 hap4 hold4
  refine sec17 D V w0 w4 A0 cap xcap Q f4 hD sl4 h27 hv4 harr4 hrep4 hap4 hold4 ?_
  intro f5 w5 A cv sl5 h275 hrd5
  have hvl5 := vall_lt hrd5.vars hrd5.arr
  refine sec18 D V A cap w0 w5 Q f5 hD.nnB hna sl5 hrd5.vars ?_
  intro f6 w6 nv0 sl6 h276 h346 hnt6 hb6
  refine sec20 D V A cap w5.heap.size nv0 w0 w5 w6 Q f6 hD rfl sl6 h346 hnt6 hb6 hrd5.vars hvl5 hrd5.old hrd5.rep.base ?_
  intro f7 w7 ib nv sl7 h277 h347 hnt7 hb7
  refine sec21 D V A cv cap xcap ib nv w0 w5 w7 Q f7 hD hna sl7 (h277.trans (h276.trans h275)) h347 hrd5 hnt7 hb7 ?_
  intro f8 W A' S lx nv2 cy2 ob sl8 haft
  refine sec26 D V A' S lx cv cap xcap ib nv nv2 cy2 ob w0 W Q f8 hD sl8 haft ?_
  intro f9 m sl9
  refine sec28 D V A' S lx cv cap xcap ib nv nv2 cy2 ob w0 W (W.drewN m) Q f9 hD sl9 haft (below_drewN (Below.refl _ _) m) ?_
  intro f10 w10 sl10 hb10
  refine sec29 D V A' S lx cv cap xcap ib nv nv2 cy2 ob w0 W w10 Q f10 hD sl10 haft hb10 ?_
  intro f11 w11 xb sl11 h45 hxb hx11 hb11
  refine sec31 D V A' S lx cv cap xcap ib nv nv2 cy2 ob xb w0 W w11 Q f11 hD sl11 h45 hxb hx11 haft hb11 ?_
  intro f12 w12 sl12 h4512 hx12 hb12
  refine sec32 D V A' S lx cv cap xcap ib nv nv2 cy2 ob xb w0 W w12 Q f12 hD sl12 h4512 hx12 haft hb12 ?_
  intro f13 w13 sl13 hb13
  refine sec34 D V A' S lx cv cap xcap ib nv nv2 cy2 ob w0 W w13 Q f13 hD sl13 haft hb13 ?_
  intro f14 w14 sl14 hb14
  refine sec35 D V A' S lx cv cap xcap ib nv nv2 cy2 ob w0 W w14 Q f14 hD sl14 haft hb14 ?_
  intro f15 w15 ev sl15 h51 h52 h53 hev hb15
  refine sec38 D V A' S lx cv cap xcap ib nv nv2 cy2 ob ev w0 W w15 Q f15 hD sl15 h51 h52 h53 hev haft hb15 ?_
  intro f16 m16 h14
  refine hQ f16 _ h14 ?_
  have hbw := below_drewN hb15 m16
  exact haft.old.trans ⟨hbw.os, hbw.output, hbw.size, fun b hb => hbw.block b (by have := haft.old.size; omega)⟩

set_option maxRecDepth 100000 in
set_option maxHeartbeats 3200000 in
theorem law_any (D : Inp) (w : World) (hD : InpAt D w) (hna : D.na = none → D.nn = 0 ∧ D.nc = 0) (hoa : D.oa = none → D.on = 0 ∧ D.oc = 0) :
    Calls Yba.prog 3 #[.agg D.evA, .slice D.ca D.cn D.cc, .agg (spA (D.sp 0)), .slice D.oa D.on D.oc, .agg D.bcA, .agg (four D.rd), .agg (four D.wr)] w fun e w' => e = .returned (.bool true) ∧ Old w.heap.size w w' := by
  go_enter Yba.func3, Yba.ntmps3
  refine in_frm9 (M := fun a w => Code.wp Yba.prog (tail (Yba.f3.body.getD .skip) 0) _ a w) _ (by rfl) ?_
  intro f hf
  show WpT 0 _ f w
  refine law_wp D w _ f hD hna hoa (hf 0) (hf 1) (hf 2) (hf 3) (hf 4) (hf 5) (hf 6) ?_
  intro f' w' h14 hold
  unfold frm
  rw [h14]
  go_ret
  exact ⟨rfl, hold⟩
end Go.Proofs.Ybulkedxc
