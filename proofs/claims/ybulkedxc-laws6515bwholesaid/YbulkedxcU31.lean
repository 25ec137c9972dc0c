/-
  LawS6515BWhole: statements 31 to 33: the counts.
-/
import Derived.Test.YbulkedxcU29
namespace Go.Proofs.Ybulkedxc
open Go.RowKit
attribute [local simp] setO_size setT_same
set_option linter.unusedSimpArgs false
set_option linter.unusedVariables false
set_option linter.unnecessarySimpa false

theorem fin_ {I : Act → World → Prop} {M : Act → World → Nat} {fr fr0 : Array Value} {w w0 : World} (X : Nat) (h : fr.size = 860) (hX : X = M ⟨fr0, []⟩ w0) (k : ∀ f, (∀ i, f i = nth fr.toList i) → I ⟨frm f, []⟩ w ∧ M ⟨frm f, []⟩ w < X) : I ⟨fr, []⟩ w ∧ M ⟨fr, []⟩ w < M ⟨fr0, []⟩ w0 := by
  have := k (nth fr.toList) (fun _ => rfl)
  rw [frm_of fr h] at this
  rw [← hX]
  exact this
/-- a spec's cells -/
theorem Aft.spec {D : Inp} {V : Var} {A : Role → Nat} {S : Sys} {lx : List Int} {cv : Value} {xcap : Nat} {ib : Nat → Nat} {nv nv2 cy2 : Value} {ob : Nat} {w0 W w : World} (h : Aft D V A S lx cv xcap ib nv nv2 cy2 ob w0 W) (hb : Below W.heap.size W w) (k : Nat) (hk : k ≤ D.on) (j : Nat) (v : Value) (hv : (spA (D.sp k))[j]? = some v) : w.cell? ⟨V.sp, k * 7 + j, none⟩ = some v := by
  obtain ⟨cs, h1, h2⟩ := h.vars.sp
  rw [hb.cell (p := ⟨V.sp, k * 7 + j, none⟩) (Array.getElem?_eq_some_iff.1 h1).1, cell_of h1]
  exact h2 k hk j v hv
theorem Aft.ended {D : Inp} {V : Var} {A : Role → Nat} {S : Sys} {lx : List Int} {cv : Value} {xcap : Nat} {ib : Nat → Nat} {nv nv2 cy2 : Value} {ob : Nat} {w0 W w : World} (h : Aft D V A S lx cv xcap ib nv nv2 cy2 ob w0 W) (hb : Below W.heap.size W w) (k : Nat) (hk : k ≤ D.on) : w.cell? ⟨V.en, k, none⟩ = some (.bool (ends D k)) := by
  obtain ⟨cs, h1, _, h2, _⟩ := h.arr.en
  rw [hb.cell (p := ⟨V.en, k, none⟩) (Array.getElem?_eq_some_iff.1 h1).1, cell_of h1]
  exact h2 k (by omega)

def ckK (D : Inp) (cv : Value) (xcap k : Nat) : Int := (endl D k).foldl (ckF (envOf D (D.on + 1) cv xcap)) (D.bc 5)
def raK (D : Inp) (cv : Value) (xcap k : Nat) : Int := (endl D k).foldl (raF (envOf D (D.on + 1) cv xcap)) (D.bc 6)
theorem ckK_succ (D : Inp) (cv : Value) (xcap k : Nat) : ckK D cv xcap (k + 1) = cond (ends D k && ((D.sp k).wait && (D.sp k).conf)) (wrap64 (ckK D cv xcap k + 1)) (ckK D cv xcap k) := by
  unfold ckK
  rw [endl_succ]
  cases ends D k
  · rfl
  · simp only [cond_true, List.foldl_append, List.foldl_cons, List.foldl_nil, Bool.true_and]
    rfl
theorem raK_succ (D : Inp) (cv : Value) (xcap k : Nat) : raK D cv xcap (k + 1) = cond (ends D k && ((D.sp k).wait && !(D.sp k).ww)) (wrap64 (raK D cv xcap k + 1)) (raK D cv xcap k) := by
  unfold raK
  rw [endl_succ]
  cases ends D k
  · rfl
  · simp only [cond_true, List.foldl_append, List.foldl_cons, List.foldl_nil, Bool.true_and]
    rfl

set_option maxRecDepth 100000 in
set_option maxHeartbeats 3200000 in
theorem sec31 (D : Inp) (V : Var) (A : Role → Nat) (S : Sys) (lx : List Int) (cv : Value) (cap xcap : Nat) (ib : Nat → Nat) (nv nv2 cy2 : Value) (ob xb : Nat) (w0 W w : World) (Q : Exit → Act → World → Prop) (f : Nat → Value) (hD : InpAt D w0) (sl : Sl3 D V A cap nv nv2 cy2 ob f) (s45 : f 45 = ptr xb) (hxb : W.heap.size ≤ xb) (hx : w.heap[xb]? = some (.cells (xA D (D.bc 5) (D.bc 6)) 30 (0, 0))) (ha : Aft D V A S lx cv xcap ib nv nv2 cy2 ob w0 W) (hb : Below W.heap.size W w)
    (h : ∀ f' w', Sl3 D V A cap nv nv2 cy2 ob f' → f' 45 = ptr xb → w'.heap[xb]? = some (.cells (xA D (ckK D cv xcap (D.on + 1)) (raK D cv xcap (D.on + 1))) 30 (0, 0)) → Below W.heap.size W w' → WpT 32 Q f' w') : WpT 31 Q f w := by
  have HH := hid h
  have HA := hid ha
  have hon := hD.onB
  have hon' : (D.on : Int) ≤ 1024 := by omega
  have hon0 : (0 : Int) ≤ (D.on : Int) := by omega
  have HB0 := hid (And.intro hb hx)
  have H45 := hid s45
  clear h hD ha hb hx s45
  refine sect 31 1 (by kernel_rfl) (by kernel_rfl) ?_
  intro r hr
  have HR := hid hr
  clear hr
  show (Code.seq _ r).wp Yba.prog Q _ _
  obtain ⟨I, hI⟩ : ∃ I : Act → World → Prop, I = fun a w1 => ∃ (f1 : Nat → Value) (k : Nat), a = ⟨frm f1, []⟩ ∧ Sl3 D V A cap nv nv2 cy2 ob f1 ∧ f1 45 = ptr xb ∧ f1 46 = .int .i64 k ∧ k ≤ D.on + 1 ∧ w1.heap[xb]? = some (.cells (xA D (ckK D cv xcap k) (raK D cv xcap k)) 30 (0, 0)) ∧ Below W.heap.size W w1 := ⟨_, rfl⟩
  obtain ⟨M, hM⟩ : ∃ M : Act → World → Nat, M = fun a _ => D.on + 1 - (intOf (nth a.tmps.toList 46)).toNat := ⟨_, rfl⟩
  have HI := hid hI
  have HM := hid hM
  clear hI hM
  unfold frm
  go_wp2_with fail
  refine wp_loop I M ?_ ?_
  · rw [HI.out]
    refine ⟨nth (Array.toList _), 0, congrArg (fun x => Act.mk x []) (frm_of _ ?_).symm, sl.of (fun i hi => ?_), H45.out, rfl, by omega, HB0.out.2, HB0.out.1⟩
    · rfl
    · simp at hi
      rcases hi with rfl | rfl | rfl | rfl | rfl | rfl | rfl | rfl | rfl | rfl | rfl | rfl | rfl | rfl | rfl | rfl | rfl | rfl | rfl | rfl <;> rfl
  clear HB0 H45 sl
  intro a1 w1 h1
  rw [HI.out] at h1
  obtain ⟨f1, k, rfl, sl1, e45, e46, hk, hx, hb⟩ := h1
  unfold frm
  rw [e45, e46, sl1.sl.s23, sl1.sl.s26]
  unfold ptr
  have HS1 := hid sl1
  clear sl1
  by_cases hlt : k < D.on + 1
  · have hki : (k : Int) < (D.on : Int) + 1 := by omega
    have hkp : (0 : Int) ≤ (k : Int) := by omega
    have z1 : w1.cell? ⟨V.sp, k * 7 + 1, none⟩ = some (.bool (D.sp k).wait) := HA.out.spec hb k (by omega) 1 _ rfl
    have z2 : w1.cell? ⟨V.sp, k * 7 + 2, none⟩ = some (.bool (D.sp k).ww) := HA.out.spec hb k (by omega) 2 _ rfl
    have z3 : w1.cell? ⟨V.sp, k * 7 + 3, none⟩ = some (.bool (D.sp k).conf) := HA.out.spec hb k (by omega) 3 _ rfl
    have ze : w1.cell? ⟨V.en, k, none⟩ = some (.bool (ends D k)) := HA.out.ended hb k (by omega)
    have msp : V.sp < W.heap.size := by
      obtain ⟨cs, h1, _⟩ := HA.out.vars.sp
      exact (Array.getElem?_eq_some_iff.1 h1).1
    have hne : ¬ xb = V.sp := by omega
    have hne' : ¬ V.sp = xb := by omega
    have x5 : w1.cell? ⟨xb, 5, none⟩ = some (.int .i64 (ckK D cv xcap k)) := cell_of hx 5
    have x6 : w1.cell? ⟨xb, 6, none⟩ = some (.int .i64 (raK D cv xcap k)) := cell_of hx 6
    have g5 : w1.frozen? ⟨xb, 5, none⟩ = false := frozen_of hx 5
    have g6 : w1.frozen? ⟨xb, 6, none⟩ = false := frozen_of hx 6
    have fin : ∀ (f' : Nat → Value) (w' : World), (∀ i ∈ [1, 7, 11, 12, 13, 15, 16, 17, 18, 19, 22, 23, 24, 25, 26, 27, 34, 38, 39, 40], f' i = f1 i) → f' 45 = ptr xb → f' 46 = .int .i64 ((k : Int) + 1) → w'.heap[xb]? = some (.cells (xA D (ckK D cv xcap (k + 1)) (raK D cv xcap (k + 1))) 30 (0, 0)) → Below W.heap.size W w' → I ⟨frm f', []⟩ w' ∧ M ⟨frm f', []⟩ w' < D.on + 1 - k := by
      intro f' w' hf h45 h46 hx' hb'
      rw [HI.out, HM.out]
      refine ⟨⟨f', k + 1, rfl, HS1.out.of hf, h45, h46.trans (by simp), by omega, hx', hb'⟩, ?_⟩
      show D.on + 1 - (intOf (nth (frm f').toList 46)).toNat < _
      rw [show nth (frm f').toList 46 = f' 46 from rfl, h46]
      simp [intOf]
      omega
    have HFIN := hid fin
    have HX := hid hx
    have HB := hid hb
    have hck := ckK_succ D cv xcap k
    have hra := raK_succ D cv xcap k
    have HCK := hid hck
    have HRA := hid hra
    clear fin hx hb hck hra
    have bset : ∀ (w' : World), Below W.heap.size W w' → ∀ (j : Nat) (v : Value), Below W.heap.size W (w'.setCell ⟨xb, j, none⟩ v) := fun w' hb j v => ⟨hb.os, hb.tape, hb.output, by simpa using hb.size, fun b hlb => (heap_setCell_ne _ (by omega)).trans (hb.block b hlb)⟩
    have HBS := hid bset
    clear bset
    cases he : ends D k
    · rw [he] at ze
      go_wp2_with fail
      refine fin_ (D.on + 1 - k) (by rfl) (by rw [HM.out]; simp [nth, intOf]) ?_
      intro f' hf'
      refine HFIN.out f' _ (fun i hi => ?_) (hf' 45) (hf' 46) ?_ ?_
      · simp at hi
        rcases hi with rfl | rfl | rfl | rfl | rfl | rfl | rfl | rfl | rfl | rfl | rfl | rfl | rfl | rfl | rfl | rfl | rfl | rfl | rfl | rfl <;> first | exact hf' _ | exact (hf' 23).trans HS1.out.sl.s23.symm | exact (hf' 26).trans HS1.out.sl.s26.symm
      · rw [HCK.out, HRA.out]
        rw [he]; exact HX.out
      · exact HB.out
    · rw [he] at ze
      cases hw : (D.sp k).wait
      · rw [hw] at z1
        go_wp2_with fail
        refine fin_ (D.on + 1 - k) (by rfl) (by rw [HM.out]; simp [nth, intOf]) ?_
        intro f' hf'
        refine HFIN.out f' _ (fun i hi => ?_) (hf' 45) (hf' 46) ?_ ?_
        · simp at hi
          rcases hi with rfl | rfl | rfl | rfl | rfl | rfl | rfl | rfl | rfl | rfl | rfl | rfl | rfl | rfl | rfl | rfl | rfl | rfl | rfl | rfl <;> first | exact hf' _ | exact (hf' 23).trans HS1.out.sl.s23.symm | exact (hf' 26).trans HS1.out.sl.s26.symm
        · rw [HCK.out, HRA.out]
          rw [he, hw]; exact HX.out
        · exact HB.out
      · rw [hw] at z1
        cases hww : (D.sp k).ww
        · rw [hww] at z2
          cases hcf : (D.sp k).conf
          · rw [hcf] at z3
            go_wp2_with fail
            refine fin_ (D.on + 1 - k) (by rfl) (by rw [HM.out]; simp [nth, intOf]) ?_
            intro f' hf'
            refine HFIN.out f' _ (fun i hi => ?_) (hf' 45) (hf' 46) ?_ ?_
            · simp at hi
              rcases hi with rfl | rfl | rfl | rfl | rfl | rfl | rfl | rfl | rfl | rfl | rfl | rfl | rfl | rfl | rfl | rfl | rfl | rfl | rfl | rfl <;> first | exact hf' _ | exact (hf' 23).trans HS1.out.sl.s23.symm | exact (hf' 26).trans HS1.out.sl.s26.symm
            · rw [HCK.out, HRA.out]
              rw [he, hw, hww, hcf]; exact heap_setCell_at _ HX.out
            · exact HBS.out _ HB.out _ _
          · rw [hcf] at z3
            go_wp2_with fail
            refine fin_ (D.on + 1 - k) (by rfl) (by rw [HM.out]; simp [nth, intOf]) ?_
            intro f' hf'
            refine HFIN.out f' _ (fun i hi => ?_) (hf' 45) (hf' 46) ?_ ?_
            · simp at hi
              rcases hi with rfl | rfl | rfl | rfl | rfl | rfl | rfl | rfl | rfl | rfl | rfl | rfl | rfl | rfl | rfl | rfl | rfl | rfl | rfl | rfl <;> first | exact hf' _ | exact (hf' 23).trans HS1.out.sl.s23.symm | exact (hf' 26).trans HS1.out.sl.s26.symm
            · rw [HCK.out, HRA.out]
              rw [he, hw, hww, hcf]; exact heap_setCell_at _ (heap_setCell_at _ HX.out)
            · exact HBS.out _ (HBS.out _ HB.out _ _) _ _
        · rw [hww] at z2
          cases hcf : (D.sp k).conf
          · rw [hcf] at z3
            go_wp2_with fail
            refine fin_ (D.on + 1 - k) (by rfl) (by rw [HM.out]; simp [nth, intOf]) ?_
            intro f' hf'
            refine HFIN.out f' _ (fun i hi => ?_) (hf' 45) (hf' 46) ?_ ?_
            · simp at hi
              rcases hi with rfl | rfl | rfl | rfl | rfl | rfl | rfl | rfl | rfl | rfl | rfl | rfl | rfl | rfl | rfl | rfl | rfl | rfl | rfl | rfl <;> first | exact hf' _ | exact (hf' 23).trans HS1.out.sl.s23.symm | exact (hf' 26).trans HS1.out.sl.s26.symm
            · rw [HCK.out, HRA.out]
              rw [he, hw, hww, hcf]; exact HX.out
            · exact HB.out
          · rw [hcf] at z3
            go_wp2_with fail
            refine fin_ (D.on + 1 - k) (by rfl) (by rw [HM.out]; simp [nth, intOf]) ?_
            intro f' hf'
            refine HFIN.out f' _ (fun i hi => ?_) (hf' 45) (hf' 46) ?_ ?_
            · simp at hi
              rcases hi with rfl | rfl | rfl | rfl | rfl | rfl | rfl | rfl | rfl | rfl | rfl | rfl | rfl | rfl | rfl | rfl | rfl | rfl | rfl | rfl <;> first | exact hf' _ | exact (hf' 23).trans HS1.out.sl.s23.symm | exact (hf' 26).trans HS1.out.sl.s26.symm
            · rw [HCK.out, HRA.out]
              rw [he, hw, hww, hcf]; exact heap_setCell_at _ HX.out
            · exact HBS.out _ HB.out _ _
  · have : k = D.on + 1 := by omega
    subst this
    have hc : ((D.on + 1 : Nat) : Int) = (D.on : Int) + 1 := by omega
    have HX := hid hx
    have HB := hid hb
    clear hx hb
    go_wp2_with fail
    refine leave HR _ (by rfl) ?_
    intro f' hf'
    refine HH.out f' w1 (HS1.out.of (fun i hi => ?_)) (hf' 45) HX.out HB.out
    simp at hi
    rcases hi with rfl | rfl | rfl | rfl | rfl | rfl | rfl | rfl | rfl | rfl | rfl | rfl | rfl | rfl | rfl | rfl | rfl | rfl | rfl | rfl <;> first | exact hf' _ | exact (hf' 23).trans HS1.out.sl.s23.symm | exact (hf' 26).trans HS1.out.sl.s26.symm

set_option maxRecDepth 100000 in
set_option maxHeartbeats 3200000 in
theorem sec32 (D : Inp) (V : Var) (A : Role → Nat) (S : Sys) (lx : List Int) (cv : Value) (cap xcap : Nat) (ib : Nat → Nat) (nv nv2 cy2 : Value) (ob xb : Nat) (w0 W w : World) (Q : Exit → Act → World → Prop) (f : Nat → Value) (hD : InpAt D w0) (sl : Sl3 D V A cap nv nv2 cy2 ob f) (s45 : f 45 = ptr xb) (hx : w.heap[xb]? = some (.cells (xA D (ckK D cv xcap (D.on + 1)) (raK D cv xcap (D.on + 1))) 30 (0, 0))) (ha : Aft D V A S lx cv xcap ib nv nv2 cy2 ob w0 W) (hb : Below W.heap.size W w)
    (h : ∀ f' w', Sl3 D V A cap nv nv2 cy2 ob f' → Below W.heap.size W w' → WpT 34 Q f' w') : WpT 32 Q f w := by
  have HH := hid h
  have hst : A .st < W.heap.size := (ha.rep.rep.dom .st trivial).2
  obtain ⟨a, c, hdid, _, _⟩ := ha.did
  have hck : S.ck = ckK D cv xcap (D.on + 1) := by rw [hdid.ck]; unfold ckK; rw [endl_all]; rfl
  have hra : S.ra = raK D cv xcap (D.on + 1) := by rw [hdid.ra]; unfold raK; rw [endl_all]; rfl
  have hab : S.ab = wrap64 (D.bc 1 + ((clOf D (D.on + 1)).length : Nat)) := by rw [ha.ab]; exact abN_wrap _ (hD.bcR 1 (by omega)) _
  have cl : ∀ k v, mem A (envOf D (D.on + 1) cv xcap) S .st k = some v → w.cell? ⟨A .st, k, none⟩ = some v := fun k v hm => (hb.cell (p := ⟨A .st, k, none⟩) hst).trans (ha.cells .st k v hm)
  have c0 : w.cell? ⟨A .st, 119, none⟩ = some (.int .i64 (D.bc 0)) := cl 119 _ rfl
  have c1 : w.cell? ⟨A .st, 120, none⟩ = some (.int .i64 (wrap64 (D.bc 1 + ((clOf D (D.on + 1)).length : Nat)))) := by rw [← hab]; exact cl 120 _ rfl
  have c2 : w.cell? ⟨A .st, 121, none⟩ = some (.int .i64 (D.bc 2)) := cl 121 _ rfl
  have c3 : w.cell? ⟨A .st, 122, none⟩ = some (.int .i64 (D.bc 3)) := cl 122 _ rfl
  have c4 : w.cell? ⟨A .st, 123, none⟩ = some (.int .i64 (D.bc 4)) := cl 123 _ rfl
  have c5 : w.cell? ⟨A .st, 124, none⟩ = some (.int .i64 (ckK D cv xcap (D.on + 1))) := by rw [← hck]; exact cl 124 _ rfl
  have c6 : w.cell? ⟨A .st, 125, none⟩ = some (.int .i64 (raK D cv xcap (D.on + 1))) := by rw [← hra]; exact cl 125 _ rfl
  have c7 : w.cell? ⟨A .st, 126, none⟩ = some (.int .i64 (D.bc 7)) := cl 126 _ rfl
  have c131 : w.cell? ⟨A .st, 131, none⟩ = some (.slice (some ⟨A .xs, 0, none⟩) 4 xcap) := cl 131 _ rfl
  have e : ∀ k, w.cell? ⟨xb, k, none⟩ = (xA D (ckK D cv xcap (D.on + 1)) (raK D cv xcap (D.on + 1)))[k]? := cell_of hx
  have y0 : w.cell? ⟨xb, 0, none⟩ = some (.int .i64 (D.bc 0)) := e 0
  have y1 : w.cell? ⟨xb, 1, none⟩ = some (.int .i64 (wrap64 (D.bc 1 + ((clOf D (D.on + 1)).length : Nat)))) := e 1
  have y2 : w.cell? ⟨xb, 2, none⟩ = some (.int .i64 (D.bc 2)) := e 2
  have y3 : w.cell? ⟨xb, 3, none⟩ = some (.int .i64 (D.bc 3)) := e 3
  have y4 : w.cell? ⟨xb, 4, none⟩ = some (.int .i64 (D.bc 4)) := e 4
  have y5 : w.cell? ⟨xb, 5, none⟩ = some (.int .i64 (ckK D cv xcap (D.on + 1))) := e 5
  have y6 : w.cell? ⟨xb, 6, none⟩ = some (.int .i64 (raK D cv xcap (D.on + 1))) := e 6
  have y7 : w.cell? ⟨xb, 7, none⟩ = some (.int .i64 (D.bc 7)) := e 7
  clear cl e hck hra hab hx
  generalize wrap64 (D.bc 1 + ((clOf D (D.on + 1)).length : Nat)) = X1 at *
  generalize ckK D cv xcap (D.on + 1) = X5 at *
  generalize raK D cv xcap (D.on + 1) = X6 at *
  have n30 := neq_30
  have HB := hid hb
  have HS := hid sl
  have H45 := hid s45
  clear h ha hb hdid hD
  refine sect 32 2 (by kernel_rfl) (by kernel_rfl) ?_
  intro r hr
  have HR := hid hr
  clear hr
  show (Code.seq _ (Code.seq _ r)).wp Yba.prog Q _ _
  unfold frm
  rw [sl.sl.s18, s45]
  unfold ptr
  clear sl s45
  go_wp2_with fail
  go_quiet (fail)
  go_wp2_with fail
  refine leave HR _ (by rfl) ?_
  intro f' hf'
  refine HH.out f' _ (HS.out.of (fun i hi => ?_)) ?_
  · simp at hi
    rcases hi with rfl | rfl | rfl | rfl | rfl | rfl | rfl | rfl | rfl | rfl | rfl | rfl | rfl | rfl | rfl | rfl | rfl | rfl | rfl | rfl <;> first | exact hf' _ | exact (hf' 18).trans HS.out.sl.s18.symm
  · have hb := HB.out
    exact ⟨hb.os, hb.tape, hb.output, hb.size, hb.block⟩
end Go.Proofs.Ybulkedxc
