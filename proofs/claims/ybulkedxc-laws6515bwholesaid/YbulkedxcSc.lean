/-
  LawS6515BWhole: statement 17: a request that waits.
-/
import Derived.Test.YbulkedxcSb
namespace Go.Proofs.Ybulkedxc
open Go.RowKit
attribute [local simp] setO_size setT_same
set_option linter.unusedSimpArgs false
set_option linter.unusedVariables false
set_option linter.unnecessarySimpa false

set_option maxRecDepth 100000 in
set_option maxHeartbeats 3200000 in
theorem piece35 (D : Inp) (V : Var) (A : Role → Nat) (cap xcap k : Nat) (cv : Value) (w0 w1 : World) (f4 : Nat → Value) (W4 : World) (c1 c2 c3 rm wm pn pl : Nat) (hon : D.on ≤ 1024) (hlt : k < D.on + 1) (hrd : Rd D V A cv xcap k w0 w1) (slr : SlR D V A cap k w1.heap.size f4) (hB4 : Below w1.heap.size w1 W4) (hRa4 : Ra D A w1.heap.size k c1 c2 c3 false (D.sp k).park 0 rm wm 0 pn pl W4) :
    (fst_ (tail (down (fst_ (snd_ (down (down (snd_ (fst_ (tail (Yba.f3.body.getD .skip) 17)))))))) 6)).wp Yba.prog (Exit.then (M3 D V A cap k cv xcap w1 c1 c2 rm wm pn pl) fun _ _ _ => False) ⟨frm f4, []⟩ W4 := by
  obtain ⟨M, hM⟩ : ∃ M, M = M3 D V A cap k cv xcap w1 c1 c2 rm wm pn pl := ⟨_, rfl⟩
  rw [← hM]
  have HM := hid hM
  clear hM
  conv => arg 2; whnf
  have sl4 := slr.sl
  unfold frm
  rw [slr.s27, slr.s28, slr.s29, slr.s30, slr.s31, sl4.s15, sl4.s16, sl4.s18, sl4.s22, sl4.s23, sl4.s24, sl4.s25, sl4.s26]
  unfold ptr
  have HRa4 := hid hRa4
  have HB4 := hid hB4
  have HRD := hid hrd
  clear hRa4 hB4 hrd
  have m1 : W4.cell? ⟨w1.heap.size, 1, none⟩ = some (.bool (D.sp k).wait) := cell_of HRa4.out.sp 1
  have m2 : W4.cell? ⟨w1.heap.size, 2, none⟩ = some (.bool (D.sp k).ww) := cell_of HRa4.out.sp 2
  have m3 : W4.cell? ⟨w1.heap.size, 3, none⟩ = some (.bool (D.sp k).conf) := cell_of HRa4.out.sp 3
  have hki : (k : Int) < (D.on : Int) + 1 := by omega
  have hkp : (0 : Int) ≤ (k : Int) := by omega
  have hk10 : ((k : Int) + 1) * 10 ≤ 100000 := by omega
  have hk11 : 0 ≤ ((k : Int) + 1) * 10 := by omega
  have hwr : IntKind.i64.wrap (((k : Int) + 1) * 10) = ((k : Int) + 1) * 10 := by rw [IntKind.wrap_i64]; omega
  have hmc := make_chan
  cases hwt : (D.sp k).wait
  · rw [hwt] at m1
    go_wp2_with fail
    rw [HM.out]
    refine ⟨nth (Array.toList _), c3, 0, 0, congrArg (fun x => Act.mk x []) (frm_of _ ?_).symm, ⟨⟨sl4.s1, sl4.s7, sl4.s11, sl4.s12, sl4.s13, rfl, rfl, sl4.s17, rfl, sl4.s19, rfl, rfl, rfl, rfl, rfl⟩, rfl, rfl, rfl, rfl, rfl⟩, ?_, ?_⟩
    · rfl
    · rw [hwt]; exact HRa4.out
    · have hb := HB4.out
      have hd := HRD.out.rep.rep.dom .wait trivial
      obtain ⟨cs, h1, h2, h3, h4⟩ := HRD.out.arr.wt
      refine ⟨hb.os, hb.output, hb.size, fun b hlb _ _ => hb.block b hlb, ?_, ⟨cs, (hb.block _ (Array.getElem?_eq_some_iff.1 h1).1).trans h1, h2, h3, ?_, fun i hi => h4 i (by omega)⟩⟩
      · rw [hwt, hb.block _ hd.2]
        exact wait_obj HRD.out.rep
      · rw [hwt]; exact h4 k (Nat.le_refl _) hlt
  · rw [hwt] at m1
    go_upto_region 37 with fail
    rename_i K1 a1 K0 a0
    obtain ⟨M2, hM2⟩ : ∃ M2 : Act → World → Prop, M2 = fun a W => ∃ f, a = ⟨frm f, []⟩ ∧ SlR D V A cap k w1.heap.size f ∧ f 32 = .int .u8 (cond (D.sp k).ww 2 1) ∧ W = W4 := ⟨_, rfl⟩
    have HM2 := hid hM2
    clear hM2
    refine (fun cut2 => ?_) (?_ : ∀ a W, M2 a W → K1 a W)
    · clear a1
      cases hww : (D.sp k).ww
      · rw [hww] at m2
        go_wp2_with fail
        rw [HM2.out]
        refine ⟨nth (Array.toList _), congrArg (fun x => Act.mk x []) (frm_of _ ?_).symm, ⟨⟨sl4.s1, sl4.s7, sl4.s11, sl4.s12, sl4.s13, rfl, rfl, sl4.s17, rfl, sl4.s19, rfl, rfl, rfl, rfl, rfl⟩, rfl, rfl, rfl, rfl, rfl⟩, ?_, rfl⟩
        · rfl
        · rw [hww]; rfl
      · rw [hww] at m2
        go_wp2_with fail
        rw [HM2.out]
        refine ⟨nth (Array.toList _), congrArg (fun x => Act.mk x []) (frm_of _ ?_).symm, ⟨⟨sl4.s1, sl4.s7, sl4.s11, sl4.s12, sl4.s13, rfl, rfl, sl4.s17, rfl, sl4.s19, rfl, rfl, rfl, rfl, rfl⟩, rfl, rfl, rfl, rfl, rfl⟩, ?_, rfl⟩
        · rfl
        · rw [hww]; rfl
    clear a0 K0
    intro a W hMx
    rw [HM2.out] at hMx
    obtain ⟨f5, rfl, slr5, e32, rfl⟩ := hMx
    refine a1 _ _ ?_
    clear a1 HM2 M2 slr sl4
    have sl5 := slr5.sl
    unfold frm
    rw [e32, slr5.s27, slr5.s28, slr5.s29, slr5.s30, slr5.s31, sl5.s15, sl5.s16, sl5.s18, sl5.s22, sl5.s23, sl5.s24, sl5.s25, sl5.s26]
    unfold ptr
    clear m1 m2
    go_wp2_with fail
    go_region_held3 (fun w' => w'.cell? ⟨w1.heap.size, 3, none⟩ = some (.bool (D.sp k).conf)) (go_keep) (fail)
    go_upto_region 40 with fail
    generalize hW5 : ((W.alloc _).alloc _).drew = W5
    have hs4 : c3 ≤ W.heap.size := HRa4.out.h4
    have hH1 : w1.heap.size + 1 < W.heap.size := by have := HRa4.out.h1; have := HRa4.out.h2; have := HRa4.out.h3; omega
    have hs5 : W5.heap.size = W.heap.size + 2 := by rw [← hW5]; show ((W.alloc _).alloc _).heap.size = _; simp
    have hh5 : ∀ b, b < W.heap.size → W5.heap[b]? = W.heap[b]? := fun b hb => by
      rw [← hW5]
      show ((W.alloc _).alloc _).heap[b]? = _
      rw [heap_alloc_old _ _ (by simp; omega), heap_alloc_old _ _ hb]
    have hc5 : W5.heap[W.heap.size]? = some (.chan 0 #[] false 0 0 false) := by
      rw [← hW5]
      show ((W.alloc _).alloc _).heap[W.heap.size]? = _
      rw [heap_alloc_old _ _ (by simp)]
      exact heap_alloc_new _ _
    have hw5 : W5.heap[W.heap.size + 1]? = some (.cells (wA D k W.heap.size (.int .i64 0) (.bool false)) 116 (0, 0)) := by
      rw [← hW5]
      exact heap_alloc2_new W _ _
    have os5 : W5.os = W.os := by rw [← hW5]; rfl
    have ou5 : W5.output = W.output := by rw [← hW5]; rfl
    clear hW5
    have hu5 : W5.heap[w1.heap.size + 1]? = some (.cells (uA D A k 0 rm wm pn pl (.slice none 0 0) (.map none) false (D.sp k).park) 107 (0, 0)) := (hh5 _ hH1).trans HRa4.out.ux
    have z3 : W5.cell? ⟨w1.heap.size + 1, 3, none⟩ = some (.pointer none) := cell_of hu5 3
    have f3 : W5.frozen? ⟨w1.heap.size + 1, 3, none⟩ = false := frozen_of hu5 3
    have HF5 := hid (show (∀ b, b < W.heap.size → W5.heap[b]? = W.heap[b]?) ∧ W5.heap[W.heap.size]? = some (.chan 0 #[] false 0 0 false) ∧ W5.heap[W.heap.size + 1]? = some (.cells (wA D k W.heap.size (.int .i64 0) (.bool false)) 116 (0, 0)) ∧ W5.os = W.os ∧ W5.output = W.output from ⟨hh5, hc5, hw5, os5, ou5⟩)
    have HU5 := hid hu5
    clear hh5 hc5 hw5 os5 ou5 hu5 m3
    go_upto_region 41 with fail
    generalize hW6 : W5.setCell ⟨w1.heap.size + 1, 3, none⟩ _ = W6
    have hh6 : ∀ b, b < w1.heap.size → W6.heap[b]? = w1.heap[b]? := fun b hb => by
      rw [← hW6, heap_setCell_ne _ (by omega), HF5.out.1 b (by omega)]
      exact HB4.out.block b hb
    have hn6 : ∀ b, b ≠ w1.heap.size + 1 → W6.heap[b]? = W5.heap[b]? := fun b hb => by rw [← hW6, heap_setCell_ne _ hb]
    have hu6 : W6.heap[w1.heap.size + 1]? = some (.cells (uA D A k (W.heap.size + 1) rm wm pn pl (.slice none 0 0) (.map none) true (D.sp k).park) 107 (0, 0)) := by
      rw [← hW6]
      exact heap_setCell_at _ HU5.out
    have hs6 : W6.heap.size = W.heap.size + 2 := by rw [← hW6]; simpa using hs5
    have os6 : W6.os = w1.os := by rw [← hW6]; exact HF5.out.2.2.2.1.trans HB4.out.os
    have ou6 : W6.output = w1.output := by rw [← hW6]; exact HF5.out.2.2.2.2.trans HB4.out.output
    have hst := HRD.out.rep.rep.dom .st trivial
    have hwd := HRD.out.rep.rep.dom .wait trivial
    have z112 : W6.cell? ⟨A .st, 112, none⟩ = some (.map (some (A .wait))) := by
      have := (HRD.out.rep.rep.cell .st 112 (.map (some (A .wait))) rfl).2.1
      rw [← this]
      simp only [World.cell?, hh6 _ hst.2]
    have z5 : W6.cell? ⟨W.heap.size + 1, 5, none⟩ = some (.int .i64 (((k : Int) + 1) * 10)) := cell_of ((hn6 _ (by omega)).trans HF5.out.2.2.1) 5
    have hwo : W6.heap[A .wait]? = some (.map (((List.range k).filter fun i => (D.sp i).wait).map (waitE A (envOf D k cv xcap))).toArray (rank (envOf D k cv xcap) k)) := (hh6 _ hwd.2).trans (wait_obj HRD.out.rep)
    have hfind : Instr.findNow (.int .i64) (.int .i64 (((k : Int) + 1) * 10)) ((((List.range k).filter fun i => (D.sp i).wait).map (waitE A (envOf D k cv xcap))).toArray).toList 0 = some none := by
      refine findNow_none _ _ _ ?_
      intro e he
      simp at he
      obtain ⟨i, ⟨hi, _⟩, rfl⟩ := he
      exact ⟨_, _, _, rfl, by omega⟩
    have hup := run_update_new (P := Yba.prog) W6 (t := 41) (d := .int .i64) Yba.underlying41 Yba.underlying3 hwo (key := .int .i64 (((k : Int) + 1) * 10)) (v := .pointer (some ⟨w1.heap.size + 1, 0, none⟩)) rfl hfind
    have hup' := run_update_new (P := Yba.prog) W6.drew (t := 41) (d := .int .i64) Yba.underlying41 Yba.underlying3 (r := A .wait) hwo (key := .int .i64 (((k : Int) + 1) * 10)) (v := .pointer (some ⟨w1.heap.size + 1, 0, none⟩)) rfl hfind
    generalize hes : (((List.range k).filter fun i => (D.sp i).wait).map (waitE A (envOf D k cv xcap))).toArray = es at *
    generalize hrk : rank (envOf D k cv xcap) k = rk at *
    obtain ⟨W7, hW7⟩ : ∃ z, z = setO W6 (A .wait) (.map (es.push { key := .int .i64 (((k : Int) + 1) * 10), val := .pointer (some ⟨w1.heap.size + 1, 0, none⟩), born := rk }) (rk + 1)) := ⟨_, rfl⟩
    have HU6 := hid (And.intro hu6 (And.intro hh6 hn6))
    have HES := hid (And.intro hes hrk)
    clear hW6 hu6 hh6 hn6 hwo hfind HU5 z3 f3 hes hrk
    rw [← hW7] at hup
    rw [show setO W6.drew (A .wait) (.map (es.push { key := .int .i64 (((k : Int) + 1) * 10), val := .pointer (some ⟨w1.heap.size + 1, 0, none⟩), born := rk }) (rk + 1)) = W7.drew by rw [hW7]; rfl] at hup'
    have hne : V.wt ≠ A .wait := fun e => HRD.out.apart.role .wait trivial (by rw [← e]; simp [Var.all])
    obtain ⟨cs, ht1, ht2, ht3, ht4⟩ := HRD.out.arr.wt
    have hwtl : V.wt < w1.heap.size := (Array.getElem?_eq_some_iff.1 ht1).1
    have hwt7 : W7.heap[V.wt]? = some (.cells cs 99 (0, 0)) := by
      rw [hW7, setO_other _ _ _ _ hne, HU6.out.2.1 _ hwtl]
      exact ht1
    have hs7 : W7.heap.size = W.heap.size + 2 := by rw [hW7]; simpa using hs6
    have zk : W7.cell? ⟨V.wt, k, none⟩ = some (.pointer none) := (cell_of hwt7 k).trans (ht4 k (Nat.le_refl _) hlt)
    have fk : W7.frozen? ⟨V.wt, k, none⟩ = false := frozen_of hwt7 k
    have y112 : W7.cell? ⟨A .st, 112, none⟩ = some (.map (some (A .wait))) := by
      rw [hW7, setO_cell _ _ _ _ (fun e => absurd (HRD.out.rep.rep.inj .st .wait trivial trivial e) (by simp))]
      exact z112
    have y5 : W7.cell? ⟨W.heap.size + 1, 5, none⟩ = some (.int .i64 (((k : Int) + 1) * 10)) := by
      rw [hW7, setO_cell _ _ _ _ (by simp; omega)]
      exact z5
    have HW7 := hid hW7
    have HT := hid (And.intro hwt7 (And.intro ht2 (And.intro ht3 ht4)))
    clear hW7 hwt7 ht1 ht2 ht3 ht4
    go_region_held3 (fun w' => w'.cell? ⟨A .st, 112, none⟩ = some (.map (some (A .wait))) ∧ w'.cell? ⟨W.heap.size + 1, 5, none⟩ = some (.int .i64 (((k : Int) + 1) * 10))) (go_keep) (fail)
    go_wp2_with fail
    rw [HM.out]
    obtain ⟨hwt7, ht2, ht3, ht4⟩ := HT.out
    have hnst : ∀ b, w1.heap.size ≤ b → b ≠ A .wait := fun b hb e => by omega
    have hup7 : ∀ b, w1.heap.size ≤ b → (W7.setCell ⟨V.wt, k, none⟩ (.pointer (some ⟨W.heap.size + 1, 0, none⟩))).drew.heap[b]? = W6.heap[b]? := fun b hb => by
      show (W7.setCell _ _).heap[b]? = _
      rw [heap_setCell_ne _ (by omega), HW7.out, setO_other _ _ _ _ (hnst b hb)]
    refine ⟨nth (Array.toList _), c3, W.heap.size + 1, W.heap.size, congrArg (fun x => Act.mk x []) (frm_of _ ?_).symm, ⟨⟨sl5.s1, sl5.s7, sl5.s11, sl5.s12, sl5.s13, rfl, rfl, sl5.s17, rfl, sl5.s19, rfl, rfl, rfl, rfl, rfl⟩, rfl, rfl, rfl, rfl, rfl⟩, ?_, ?_⟩
    · rfl
    · rw [hwt]
      have q3 := HRa4.out.h3
      refine HRa4.out.turn (fun b h1 h2 h3 => ?_) ?_ ?_ (fun _ => ⟨⟨.int .i64 0, .bool false, ?_⟩, ?_⟩) (fun e => ?_) HRa4.out.h3 ?_ HRa4.out.hp (fun _ => ⟨hs4, by omega⟩)
      · rw [hup7 b h1, HU6.out.2.2 b h3, HF5.out.1 b h2]
      · show W.heap.size ≤ (W7.setCell _ _).heap.size
        simp
        omega
      · rw [hup7 _ (by omega)]; exact HU6.out.1
      · rw [hup7 _ (by omega), HU6.out.2.2 _ (by omega)]; exact HF5.out.2.2.1
      · rw [hup7 _ (by omega), HU6.out.2.2 _ (by omega)]; exact HF5.out.2.1
      · have p1 := HRa4.out.px e
        have p2 := HRa4.out.hp e
        have p3 := HRa4.out.h1
        have p4 := HRa4.out.h2
        refine ⟨?_, ?_⟩
        · rw [hup7 _ (by omega), HU6.out.2.2 _ (by omega), HF5.out.1 _ (by omega)]; exact p1.1
        · rw [hup7 _ (by omega), HU6.out.2.2 _ (by omega), HF5.out.1 _ (by omega)]; exact p1.2
      · show c3 ≤ (W7.setCell _ _).heap.size
        simp
        omega
    · refine ⟨?_, ?_, ?_, ?_, ?_, ?_⟩
      · show W7.os = _
        rw [HW7.out]; exact os6
      · show W7.output = _
        rw [HW7.out]; exact ou6
      · show w1.heap.size ≤ (W7.setCell _ _).heap.size
        simp
        omega
      · intro b hb h1 h2
        show (W7.setCell _ _).heap[b]? = _
        rw [heap_setCell_ne _ h2, HW7.out, setO_other _ _ _ _ h1]
        exact HU6.out.2.1 b hb
      · rw [hwt]
        show (W7.setCell _ _).heap[A .wait]? = _
        rw [heap_setCell_ne _ (Ne.symm hne), HW7.out, setO_heap _ _ _ (by omega), HES.out.1, HES.out.2]
        rfl
      · have hz : (W7.setCell ⟨V.wt, k, none⟩ (.pointer (some ⟨W.heap.size + 1, 0, none⟩))).drew.heap[V.wt]? = some (.cells (cs.setIfInBounds k (.pointer (some ⟨W.heap.size + 1, 0, none⟩))) 99 (0, 0)) := heap_setCell_at _ hwt7
        refine ⟨_, hz, by simpa using ht2, fun i hi => ?_, ?_, fun i h1 h2 => ?_⟩
        · rw [Array.getElem?_setIfInBounds_ne (by omega)]; exact ht3 i hi
        · rw [hwt, Array.getElem?_setIfInBounds_self_of_lt (by omega)]; rfl
        · rw [Array.getElem?_setIfInBounds_ne (by omega)]; exact ht4 i (by omega) h2
end Go.Proofs.Ybulkedxc
