/-
  LawS6515BWhole: statement 34: the items' readers and writers.
-/
import Derived.Test.YbulkedxcU29
namespace Go.Proofs.Ybulkedxc
open Go.RowKit
attribute [local simp] setO_size setT_same
set_option linter.unusedSimpArgs false
set_option linter.unusedVariables false
set_option linter.unnecessarySimpa false

theorem fin9 {I : Act → World → Prop} {M : Act → World → Nat} {fr fr0 : Array Value} {w w0 : World} (X : Nat) (h : fr.size = 860) (hX : X = M ⟨fr0, []⟩ w0) (k : ∀ f, (∀ i, f i = nth fr.toList i) → I ⟨frm f, []⟩ w ∧ M ⟨frm f, []⟩ w < X) : I ⟨fr, []⟩ w ∧ M ⟨fr, []⟩ w < M ⟨fr0, []⟩ w0 := by
  have := k (nth fr.toList) (fun _ => rfl)
  rw [frm_of fr h] at this
  rw [← hX]
  exact this
theorem Aft.spec9 {D : Inp} {V : Var} {A : Role → Nat} {S : Sys} {lx : List Int} {cv : Value} {xcap : Nat} {ib : Nat → Nat} {nv nv2 cy2 : Value} {ob : Nat} {w0 W w : World} (h : Aft D V A S lx cv xcap ib nv nv2 cy2 ob w0 W) (hb : Below W.heap.size W w) (k : Nat) (hk : k ≤ D.on) (j : Nat) (v : Value) (hv : (spA (D.sp k))[j]? = some v) : w.cell? ⟨V.sp, k * 7 + j, none⟩ = some v := by
  obtain ⟨cs, h1, h2⟩ := h.vars.sp
  rw [hb.cell (p := ⟨V.sp, k * 7 + j, none⟩) (Array.getElem?_eq_some_iff.1 h1).1, cell_of h1]
  exact h2 k hk j v hv
theorem Aft.ended9 {D : Inp} {V : Var} {A : Role → Nat} {S : Sys} {lx : List Int} {cv : Value} {xcap : Nat} {ib : Nat → Nat} {nv nv2 cy2 : Value} {ob : Nat} {w0 W w : World} (h : Aft D V A S lx cv xcap ib nv nv2 cy2 ob w0 W) (hb : Below W.heap.size W w) (k : Nat) (hk : k ≤ D.on) : w.cell? ⟨V.en, k, none⟩ = some (.bool (ends D k)) := by
  obtain ⟨cs, h1, _, h2, _⟩ := h.arr.en
  rw [hb.cell (p := ⟨V.en, k, none⟩) (Array.getElem?_eq_some_iff.1 h1).1, cell_of h1]
  exact h2 k (by omega)

def rdK (D : Inp) (cv : Value) (xcap j k : Nat) : Int := (endl D k).foldl (rdF (envOf D (D.on + 1) cv xcap) j) (D.rd j)
def wrK (D : Inp) (cv : Value) (xcap j k : Nat) : Int := (endl D k).foldl (wrF (envOf D (D.on + 1) cv xcap) j) (D.wr j)
theorem rdK_succ (D : Inp) (cv : Value) (xcap j k : Nat) (hj : j < 4) : rdK D cv xcap j (k + 1) = cond (ends D k && (D.sp k).rd.testBit j) (wrap64 (rdK D cv xcap j k - 1)) (rdK D cv xcap j k) := by
  unfold rdK
  rw [endl_succ]
  cases ends D k
  · rfl
  · simp only [cond_true, List.foldl_append, List.foldl_cons, List.foldl_nil, Bool.true_and]
    show cond (decide (j < 4) && (D.sp k).rd.testBit j) _ _ = _
    rw [decide_eq_true hj]
    rfl
theorem wrK_succ (D : Inp) (cv : Value) (xcap j k : Nat) (hj : j < 4) : wrK D cv xcap j (k + 1) = cond (ends D k && (D.sp k).wr.testBit j) (wrap64 (wrK D cv xcap j k - 1)) (wrK D cv xcap j k) := by
  unfold wrK
  rw [endl_succ]
  cases ends D k
  · rfl
  · simp only [cond_true, List.foldl_append, List.foldl_cons, List.foldl_nil, Bool.true_and]
    show cond (decide (j < 4) && (D.sp k).wr.testBit j) _ _ = _
    rw [decide_eq_true hj]
    rfl

/-- the inner loop's state -/
def I8 (D : Inp) (V : Var) (A : Role → Nat) (cap : Nat) (cv : Value) (xcap : Nat) (nv nv2 cy2 : Value) (ob j : Nat) (wf : World) : Act → World → Prop := fun a w1 => ∃ (f1 : Nat → Value) (k : Nat), a = ⟨frm f1, []⟩ ∧ Sl3 D V A cap nv nv2 cy2 ob f1 ∧ f1 47 = .int .i64 j ∧ f1 48 = .int .i64 (rdK D cv xcap j k) ∧ f1 49 = .int .i64 (wrK D cv xcap j k) ∧ f1 50 = .int .i64 k ∧ k ≤ D.on + 1 ∧ w1 = wf

set_option maxRecDepth 100000 in
set_option maxHeartbeats 3200000 in
theorem sec34 (D : Inp) (V : Var) (A : Role → Nat) (S : Sys) (lx : List Int) (cv : Value) (cap xcap : Nat) (ib : Nat → Nat) (nv nv2 cy2 : Value) (ob : Nat) (w0 W w : World) (Q : Exit → Act → World → Prop) (f : Nat → Value) (hD : InpAt D w0) (sl : Sl3 D V A cap nv nv2 cy2 ob f) (ha : Aft D V A S lx cv xcap ib nv nv2 cy2 ob w0 W) (hb : Below W.heap.size W w)
    (h : ∀ f' w', Sl3 D V A cap nv nv2 cy2 ob f' → Below W.heap.size W w' → WpT 35 Q f' w') : WpT 34 Q f w := by
  have HH := hid h
  have HA := hid ha
  have HD := hid hD
  have hon := hD.onB
  have hon' : (D.on : Int) ≤ 1024 := by omega
  have hon0 : (0 : Int) ≤ (D.on : Int) := by omega
  have HB0 := hid hb
  clear h hD ha hb
  refine sect 34 1 (by kernel_rfl) (by kernel_rfl) ?_
  intro r hr
  have HR := hid hr
  clear hr
  show (Code.seq _ r).wp Yba.prog Q _ _
  obtain ⟨I, hI⟩ : ∃ I : Act → World → Prop, I = fun a w1 => ∃ (f1 : Nat → Value) (j : Nat), a = ⟨frm f1, []⟩ ∧ Sl3 D V A cap nv nv2 cy2 ob f1 ∧ f1 47 = .int .i64 j ∧ j ≤ 4 ∧ Below W.heap.size W w1 := ⟨_, rfl⟩
  obtain ⟨M, hM⟩ : ∃ M : Act → World → Nat, M = fun a _ => 4 - (intOf (nth a.tmps.toList 47)).toNat := ⟨_, rfl⟩
  have HI := hid hI
  have HM := hid hM
  clear hI hM
  unfold frm
  go_wp2_with fail
  refine wp_loop I M ?_ ?_
  · rw [HI.out]
    refine ⟨nth (Array.toList _), 0, congrArg (fun x => Act.mk x []) (frm_of _ ?_).symm, sl.of (fun i hi => ?_), rfl, by omega, HB0.out⟩
    · rfl
    · simp at hi
      rcases hi with rfl | rfl | rfl | rfl | rfl | rfl | rfl | rfl | rfl | rfl | rfl | rfl | rfl | rfl | rfl | rfl | rfl | rfl | rfl | rfl <;> rfl
  clear HB0 sl
  intro a1 w1 h1
  rw [HI.out] at h1
  obtain ⟨f1, j, rfl, sl1, e47, hj, hb⟩ := h1
  unfold frm
  rw [e47, sl1.sl.s12, sl1.sl.s13]
  unfold ptr
  have HS1 := hid sl1
  clear sl1
  by_cases hlt : j < 4
  · have hji : (j : Int) < 4 := by omega
    have hjp : (0 : Int) ≤ (j : Int) := by omega
    have m12 : V.b12 < W.heap.size := (Array.getElem?_eq_some_iff.1 HA.out.vars.b12).1
    have m13 : V.b13 < W.heap.size := (Array.getElem?_eq_some_iff.1 HA.out.vars.b13).1
    have z12 : w1.cell? ⟨V.b12, j, none⟩ = some (.int .i64 (D.rd j)) := (hb.cell (p := ⟨V.b12, j, none⟩) m12).trans ((cell_of HA.out.vars.b12 j).trans (four_get D.rd j hlt))
    have z13 : w1.cell? ⟨V.b13, j, none⟩ = some (.int .i64 (D.wr j)) := (hb.cell (p := ⟨V.b13, j, none⟩) m13).trans ((cell_of HA.out.vars.b13 j).trans (four_get D.wr j hlt))
    have HB := hid hb
    clear hb
    go_wp2_with fail
    go_quiet (fail)
    go_wp2_with fail
    generalize hw2 : w1.drewN nq = w2
    have hb2 : Below W.heap.size W w2 := by
      have hb := HB.out
      rw [← hw2]
      exact ⟨hb.os, hb.tape, hb.output, hb.size, hb.block⟩
    clear hw2
    obtain ⟨J, hJ⟩ : ∃ J, J = I8 D V A cap cv xcap nv nv2 cy2 ob j w2 := ⟨_, rfl⟩
    obtain ⟨N, hN⟩ : ∃ N : Act → World → Nat, N = fun a _ => D.on + 1 - (intOf (nth a.tmps.toList 50)).toNat := ⟨_, rfl⟩
    have HJ := hid hJ
    have HN := hid hN
    have HB2 := hid hb2
    clear hJ hN hb2 HB z12 z13
    refine wp_loop J N ?_ ?_
    · rw [HJ.out]
      refine ⟨nth (Array.toList _), 0, congrArg (fun x => Act.mk x []) (frm_of _ ?_).symm, HS1.out.of (fun i hi => ?_), rfl, rfl, rfl, rfl, by omega, rfl⟩
      · rfl
      · simp at hi
        rcases hi with rfl | rfl | rfl | rfl | rfl | rfl | rfl | rfl | rfl | rfl | rfl | rfl | rfl | rfl | rfl | rfl | rfl | rfl | rfl | rfl <;> first | rfl | exact HS1.out.sl.s12.symm | exact HS1.out.sl.s13.symm
    clear HS1
    intro a2 w3 h2
    rw [HJ.out] at h2
    obtain ⟨f2, k, rfl, sl2, e47', e48, e49, e50, hk, rfl⟩ := h2
    unfold frm
    rw [e47', e48, e49, e50, sl2.sl.s15, sl2.sl.s18, sl2.sl.s19, sl2.sl.s23, sl2.sl.s26]
    unfold ptr
    have HS2 := hid sl2
    clear sl2
    by_cases hkl : k < D.on + 1
    · have hki : (k : Int) < (D.on : Int) + 1 := by omega
      have hkp : (0 : Int) ≤ (k : Int) := by omega
      have z5 : w3.cell? ⟨V.sp, k * 7 + 5, none⟩ = some (.int .u8 (D.sp k).rd) := HA.out.spec9 HB2.out k (by omega) 5 _ rfl
      have z6 : w3.cell? ⟨V.sp, k * 7 + 6, none⟩ = some (.int .u8 (D.sp k).wr) := HA.out.spec9 HB2.out k (by omega) 6 _ rfl
      have ze : w3.cell? ⟨V.en, k, none⟩ = some (.bool (ends D k)) := HA.out.ended9 HB2.out k (by omega)
      have br := bit_of (D.sp k).rd j (HD.out.rdB k (by omega)) hlt
      have bw := bit_of (D.sp k).wr j (HD.out.wrB k (by omega)) hlt
      have fin : ∀ (f' : Nat → Value), (∀ i ∈ [1, 7, 11, 12, 13, 15, 16, 17, 18, 19, 22, 23, 24, 25, 26, 27, 34, 38, 39, 40], f' i = f2 i) → f' 47 = .int .i64 j → f' 48 = .int .i64 (rdK D cv xcap j (k + 1)) → f' 49 = .int .i64 (wrK D cv xcap j (k + 1)) → f' 50 = .int .i64 ((k : Int) + 1) → J ⟨frm f', []⟩ w3 ∧ N ⟨frm f', []⟩ w3 < D.on + 1 - k := by
        intro f' hf h47 h48 h49 h50
        rw [HJ.out, HN.out]
        refine ⟨⟨f', k + 1, rfl, HS2.out.of hf, h47, h48, h49, h50.trans (by simp), by omega, rfl⟩, ?_⟩
        show D.on + 1 - (intOf (nth (frm f').toList 50)).toNat < _
        rw [show nth (frm f').toList 50 = f' 50 from rfl, h50]
        simp [intOf]
        omega
      have HFIN := hid fin
      have HRK := hid (rdK_succ D cv xcap j k hlt)
      have HWK := hid (wrK_succ D cv xcap j k hlt)
      clear fin
      cases he : ends D k
      · rw [he] at ze
        go_wp2_with fail
        refine fin9 (D.on + 1 - k) (by rfl) (by rw [HN.out]; simp [nth, intOf]) ?_
        intro f' hf'
        refine HFIN.out f' (fun i hi => ?_) (hf' 47) ?_ ?_ (hf' 50)
        · simp at hi
          rcases hi with rfl | rfl | rfl | rfl | rfl | rfl | rfl | rfl | rfl | rfl | rfl | rfl | rfl | rfl | rfl | rfl | rfl | rfl | rfl | rfl <;> first | exact hf' _ | exact (hf' 15).trans HS2.out.sl.s15.symm | exact (hf' 18).trans HS2.out.sl.s18.symm | exact (hf' 19).trans HS2.out.sl.s19.symm | exact (hf' 23).trans HS2.out.sl.s23.symm | exact (hf' 26).trans HS2.out.sl.s26.symm
        · rw [HRK.out]; rw [he]; exact hf' 48
        · rw [HWK.out]; rw [he]; exact hf' 49
      · rw [he] at ze
        cases hr : (D.sp k).rd.testBit j
        · rw [hr] at br
          cases hw : (D.sp k).wr.testBit j
          · rw [hw] at bw
            go_wp2_with fail
            refine fin9 (D.on + 1 - k) (by rfl) (by rw [HN.out]; simp [nth, intOf]) ?_
            intro f' hf'
            refine HFIN.out f' (fun i hi => ?_) (hf' 47) ?_ ?_ (hf' 50)
            · simp at hi
              rcases hi with rfl | rfl | rfl | rfl | rfl | rfl | rfl | rfl | rfl | rfl | rfl | rfl | rfl | rfl | rfl | rfl | rfl | rfl | rfl | rfl <;> first | exact hf' _ | exact (hf' 15).trans HS2.out.sl.s15.symm | exact (hf' 18).trans HS2.out.sl.s18.symm | exact (hf' 19).trans HS2.out.sl.s19.symm | exact (hf' 23).trans HS2.out.sl.s23.symm | exact (hf' 26).trans HS2.out.sl.s26.symm
            · rw [HRK.out]; rw [he, hr]; exact hf' 48
            · rw [HWK.out]; rw [he, hw]; exact hf' 49
          · rw [hw] at bw
            go_wp2_with fail
            refine fin9 (D.on + 1 - k) (by rfl) (by rw [HN.out]; simp [nth, intOf]) ?_
            intro f' hf'
            refine HFIN.out f' (fun i hi => ?_) (hf' 47) ?_ ?_ (hf' 50)
            · simp at hi
              rcases hi with rfl | rfl | rfl | rfl | rfl | rfl | rfl | rfl | rfl | rfl | rfl | rfl | rfl | rfl | rfl | rfl | rfl | rfl | rfl | rfl <;> first | exact hf' _ | exact (hf' 15).trans HS2.out.sl.s15.symm | exact (hf' 18).trans HS2.out.sl.s18.symm | exact (hf' 19).trans HS2.out.sl.s19.symm | exact (hf' 23).trans HS2.out.sl.s23.symm | exact (hf' 26).trans HS2.out.sl.s26.symm
            · rw [HRK.out]; rw [he, hr]; exact hf' 48
            · rw [HWK.out]; rw [he, hw]; exact hf' 49
        · rw [hr] at br
          cases hw : (D.sp k).wr.testBit j
          · rw [hw] at bw
            go_wp2_with fail
            refine fin9 (D.on + 1 - k) (by rfl) (by rw [HN.out]; simp [nth, intOf]) ?_
            intro f' hf'
            refine HFIN.out f' (fun i hi => ?_) (hf' 47) ?_ ?_ (hf' 50)
            · simp at hi
              rcases hi with rfl | rfl | rfl | rfl | rfl | rfl | rfl | rfl | rfl | rfl | rfl | rfl | rfl | rfl | rfl | rfl | rfl | rfl | rfl | rfl <;> first | exact hf' _ | exact (hf' 15).trans HS2.out.sl.s15.symm | exact (hf' 18).trans HS2.out.sl.s18.symm | exact (hf' 19).trans HS2.out.sl.s19.symm | exact (hf' 23).trans HS2.out.sl.s23.symm | exact (hf' 26).trans HS2.out.sl.s26.symm
            · rw [HRK.out]; rw [he, hr]; exact hf' 48
            · rw [HWK.out]; rw [he, hw]; exact hf' 49
          · rw [hw] at bw
            go_wp2_with fail
            refine fin9 (D.on + 1 - k) (by rfl) (by rw [HN.out]; simp [nth, intOf]) ?_
            intro f' hf'
            refine HFIN.out f' (fun i hi => ?_) (hf' 47) ?_ ?_ (hf' 50)
            · simp at hi
              rcases hi with rfl | rfl | rfl | rfl | rfl | rfl | rfl | rfl | rfl | rfl | rfl | rfl | rfl | rfl | rfl | rfl | rfl | rfl | rfl | rfl <;> first | exact hf' _ | exact (hf' 15).trans HS2.out.sl.s15.symm | exact (hf' 18).trans HS2.out.sl.s18.symm | exact (hf' 19).trans HS2.out.sl.s19.symm | exact (hf' 23).trans HS2.out.sl.s23.symm | exact (hf' 26).trans HS2.out.sl.s26.symm
            · rw [HRK.out]; rw [he, hr]; exact hf' 48
            · rw [HWK.out]; rw [he, hw]; exact hf' 49
    · have : k = D.on + 1 := by omega
      subst this
      have hc : ((D.on + 1 : Nat) : Int) = (D.on : Int) + 1 := by omega
      obtain ⟨a, c, hdid, _, _⟩ := HA.out.did
      have hst : A .st < W.heap.size := (HA.out.rep.rep.dom .st trivial).2
      have hxs : A .xs < W.heap.size := (HA.out.rep.rep.dom .xs trivial).2
      have m15 : V.b15 < W.heap.size := (Array.getElem?_eq_some_iff.1 HA.out.vars.b15).1
      have m19 : V.b19 < W.heap.size := (Array.getElem?_eq_some_iff.1 HA.out.vars.b19).1
      have hrd : S.rdr j = rdK D cv xcap j (D.on + 1) := by rw [hdid.rdr]; unfold rdK; rw [endl_all]; rfl
      have hwr : S.wtr j = wrK D cv xcap j (D.on + 1) := by rw [hdid.wtr]; unfold wrK; rw [endl_all]; rfl
      have c131 : w3.cell? ⟨A .st, 131, none⟩ = some (.slice (some ⟨A .xs, 0, none⟩) 4 xcap) := (HB2.out.cell (p := ⟨A .st, 131, none⟩) hst).trans (HA.out.cells .st 131 _ rfl)
      have cx : ∀ q v, mem A (envOf D (D.on + 1) cv xcap) S .xs q = some v → w3.cell? ⟨A .xs, q, none⟩ = some v := fun q v hm => (HB2.out.cell (p := ⟨A .xs, q, none⟩) hxs).trans (HA.out.cells .xs q v hm)
      have x0 : w3.cell? ⟨A .xs, j * 3, none⟩ = some (.string (nm j)) := cx _ _ (by simp only [mem]; rw [if_pos (by omega), if_pos (by omega), show j * 3 / 3 = j by omega])
      have x1 : w3.cell? ⟨A .xs, j * 3 + 1, none⟩ = some (.int .i64 (rdK D cv xcap j (D.on + 1))) := by
        rw [← hrd]
        exact cx _ _ (by simp only [mem]; rw [if_pos (by omega), if_neg (by omega), if_pos (by omega), show (j * 3 + 1) / 3 = j by omega])
      have x2 : w3.cell? ⟨A .xs, j * 3 + 2, none⟩ = some (.int .i64 (wrK D cv xcap j (D.on + 1))) := by
        rw [← hwr]
        exact cx _ _ (by simp only [mem]; rw [if_pos (by omega), if_neg (by omega), if_neg (by omega), show (j * 3 + 2) / 3 = j by omega])
      have y19 : w3.cell? ⟨V.b19, j, none⟩ = some (.int .i32 j) := (HB2.out.cell (p := ⟨V.b19, j, none⟩) m19).trans ((cell_of HA.out.vars.b19 j).trans (xsA_four j hlt))
      have y15 : w3.cell? ⟨V.b15, j, none⟩ = some (.string (nm j)) := (HB2.out.cell (p := ⟨V.b15, j, none⟩) m15).trans ((cell_of HA.out.vars.b15 j).trans (nmA_get j hlt))
      clear hdid hrd hwr cx
      generalize rdK D cv xcap j (D.on + 1) = X1 at *
      generalize wrK D cv xcap j (D.on + 1) = X2 at *
      go_upto_region 105 with fail
      go_quiet (fail)
      go_wp2_with fail
      refine fin9 (4 - j) (by rfl) (by rw [HM.out]; simp [nth, intOf]) ?_
      intro f' hf'
      rw [HI.out, HM.out]
      refine ⟨⟨f', j + 1, rfl, HS2.out.of (fun i hi => ?_), (hf' 47).trans ?_, by omega, ?_⟩, ?_⟩
      · simp at hi
        rcases hi with rfl | rfl | rfl | rfl | rfl | rfl | rfl | rfl | rfl | rfl | rfl | rfl | rfl | rfl | rfl | rfl | rfl | rfl | rfl | rfl <;> first | exact hf' _ | exact (hf' 15).trans HS2.out.sl.s15.symm | exact (hf' 18).trans HS2.out.sl.s18.symm | exact (hf' 19).trans HS2.out.sl.s19.symm | exact (hf' 23).trans HS2.out.sl.s23.symm | exact (hf' 26).trans HS2.out.sl.s26.symm
      · show Value.int _ _ = _
        go_num
      · have hb := HB2.out
        exact ⟨hb.os, hb.tape, hb.output, hb.size, hb.block⟩
      · show 4 - (intOf (nth (frm f').toList 47)).toNat < _
        rw [show nth (frm f').toList 47 = f' 47 from rfl, hf' 47]
        simp [nth, intOf]
        omega
  · have : j = 4 := by omega
    subst this
    have HB := hid hb
    clear hb
    go_wp2_with fail
    refine leave HR _ (by rfl) ?_
    intro f' hf'
    refine HH.out f' w1 (HS1.out.of (fun i hi => ?_)) HB.out
    simp at hi
    rcases hi with rfl | rfl | rfl | rfl | rfl | rfl | rfl | rfl | rfl | rfl | rfl | rfl | rfl | rfl | rfl | rfl | rfl | rfl | rfl | rfl <;> first | exact hf' _ | exact (hf' 12).trans HS1.out.sl.s12.symm | exact (hf' 13).trans HS1.out.sl.s13.symm
end Go.Proofs.Ybulkedxc
