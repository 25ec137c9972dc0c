/-
  LawS6515BWhole: statement 17: the transactions.
-/
import Derived.Test.YbulkedxcSc
import Derived.Test.YbulkedxcSd
namespace Go.Proofs.Ybulkedxc
open Go.RowKit
attribute [local simp] setO_size setT_same
set_option linter.unusedSimpArgs false
set_option linter.unusedVariables false
set_option linter.unnecessarySimpa false

set_option maxRecDepth 100000 in
set_option maxHeartbeats 3200000 in
theorem sec17 (D : Inp) (V : Var) (w0 w : World) (A0 : Role → Nat) (cap xcap : Nat) (Q : Exit → Act → World → Prop) (f : Nat → Value) (hD : InpAt D w0) (sl : Sl2 D V A0 cap f) (h27 : f 27 = .int .i64 ((clOf D 0).length : Nat)) (hvars : Vars D V w) (harr : Arr D V A0 0 w) (hrep : Rep A0 (envOf D 0 (.slice none 0 0) xcap) (sys0 D) [] w0.heap.size w) (hap : Apart V A0 (envOf D 0 (.slice none 0 0) xcap) (sys0 D) w0.heap.size) (hold : Old w0.heap.size w0 w)
    (h : ∀ f' w' A cv, Sl2 D V A cap f' → f' 27 = .int .i64 ((clOf D (D.on + 1)).length : Nat) → Rd D V A cv xcap (D.on + 1) w0 w' → WpT 18 Q f' w') : WpT 17 Q f w := by
  have HH := hid h
  have HD := hid hD
  have HR0 := hid (show Rd D V A0 (.slice none 0 0) xcap 0 w0 w from ⟨hvars, harr, hrep, hap, ⟨⟨rfl, Or.inl ⟨rfl, rfl⟩⟩, fun b hb => by simp [Value.ownBlock] at hb, fun b hb => by simp [Value.ownBlock] at hb⟩, hold⟩)
  have hon := hD.onB
  have hon' : (D.on : Int) ≤ 1024 := by omega
  have hon0 : (0 : Int) ≤ (D.on : Int) := by omega
  have H27 := hid h27
  clear h hD hvars harr hrep hap hold h27
  refine sect 17 1 (by kernel_rfl) (by kernel_rfl) ?_
  intro r hr
  have HR := hid hr
  clear hr
  show (Code.seq _ r).wp Yba.prog Q _ _
  unfold frm
  obtain ⟨I, hI⟩ : ∃ I : Act → World → Prop, I = fun a w => ∃ (f : Nat → Value) (k : Nat) (A : Role → Nat) (cv : Value), a = ⟨frm f, []⟩ ∧ Sl2 D V A cap f ∧ f 27 = .int .i64 ((clOf D k).length : Nat) ∧ f 28 = .int .i64 k ∧ k ≤ D.on + 1 ∧ Rd D V A cv xcap k w0 w := ⟨_, rfl⟩
  obtain ⟨M, hM⟩ : ∃ M : Act → World → Nat, M = fun a _ => D.on + 1 - (intOf (nth a.tmps.toList 28)).toNat := ⟨_, rfl⟩
  have HI := hid hI
  have HM := hid hM
  clear hI hM
  go_wp2_with fail
  refine wp_loop I M ?_ ?_
  · rw [HI.out]
    refine ⟨nth (Array.toList _), 0, A0, _, congrArg (fun x => Act.mk x []) (frm_of _ ?_).symm, ⟨sl.s1, sl.s7, sl.s11, sl.s12, sl.s13, sl.s15, sl.s16, sl.s17, sl.s18, sl.s19, sl.s22, sl.s23, sl.s24, sl.s25, sl.s26⟩, H27.out, rfl, by omega, HR0.out⟩
    rfl
  clear HR0 H27 sl
  intro a1 w1 h1
  rw [HI.out] at h1
  obtain ⟨f1, k, A, cv, rfl, sl1, e27, e28, hk, hrd⟩ := h1
  unfold frm
  rw [e27, e28, sl1.s15, sl1.s16, sl1.s18, sl1.s22, sl1.s23, sl1.s24, sl1.s25, sl1.s26]
  unfold ptr
  by_cases hlt : k < D.on + 1
  · have hki : (k : Int) < (D.on : Int) + 1 := by omega
    have hkp : (0 : Int) ≤ (k : Int) := by omega
    obtain ⟨scs, hsp, hspc⟩ := hrd.vars.sp
    have cs : ∀ j v, (spA (D.sp k))[j]? = some v → w1.cell? ⟨V.sp, k * 7 + j, none⟩ = some v := fun j v hv => (cell_of hsp _).trans (hspc k (by omega) j v hv)
    have s0 : w1.cell? ⟨V.sp, k * 7, none⟩ = some (.bool (D.sp k).casc) := cs 0 _ rfl
    have s1 : w1.cell? ⟨V.sp, k * 7 + 1, none⟩ = some (.bool (D.sp k).wait) := cs 1 _ rfl
    have s2 : w1.cell? ⟨V.sp, k * 7 + 2, none⟩ = some (.bool (D.sp k).ww) := cs 2 _ rfl
    have s3 : w1.cell? ⟨V.sp, k * 7 + 3, none⟩ = some (.bool (D.sp k).conf) := cs 3 _ rfl
    have s4 : w1.cell? ⟨V.sp, k * 7 + 4, none⟩ = some (.bool (D.sp k).park) := cs 4 _ rfl
    have s5 : w1.cell? ⟨V.sp, k * 7 + 5, none⟩ = some (.int .u8 (D.sp k).rd) := cs 5 _ rfl
    have s6 : w1.cell? ⟨V.sp, k * 7 + 6, none⟩ = some (.int .u8 (D.sp k).wr) := cs 6 _ rfl
    have n15 : V.b15 < w1.heap.size := (Array.getElem?_eq_some_iff.1 hrd.vars.b15).1
    have hst : A .st < w1.heap.size := (hrd.rep.rep.dom .st trivial).2
    have hlg : A .log < w1.heap.size := (hrd.rep.rep.dom .log trivial).2
    have q0 : w1.cell? ⟨V.b15, 0, none⟩ = some (.string (nm 0)) := cell_of hrd.vars.b15 0
    have q1 : w1.cell? ⟨V.b15, 1, none⟩ = some (.string (nm 1)) := cell_of hrd.vars.b15 1
    have q2 : w1.cell? ⟨V.b15, 2, none⟩ = some (.string (nm 2)) := cell_of hrd.vars.b15 2
    have q3 : w1.cell? ⟨V.b15, 3, none⟩ = some (.string (nm 3)) := cell_of hrd.vars.b15 3
    have HRD := hid hrd
    clear hrd cs
    go_upto_region 31 with fail
    have hrB := HD.out.rdB k (by omega)
    have hwB := HD.out.wrB k (by omega)
    generalize hW1 : (w1.alloc _).alloc _ = W1
    have p1 : W1.heap[w1.heap.size]? = some (.cells (spA (D.sp k)) 27 (0, 0)) := by
      rw [← hW1, heap_alloc_old _ _ (by simp)]; exact heap_alloc_new _ _
    have p2 : W1.heap[w1.heap.size + 1]? = some (.cells #[ptr (A .st), .int .i64 ((k : Int) + 1), .nilIface, .pointer none, .map none, .map none, .int .i32 0, .int .i32 0, .slice none 0 0, .map none, .nilFunc] 107 (0, 0)) := by
      rw [← hW1]; exact heap_alloc2_new w1 _ _
    have hB1 : Below w1.heap.size w1 W1 := by rw [← hW1]; exact ((Below.refl _ _).alloc (Nat.le_refl _) _).alloc (by simp) _
    have hs1 : W1.heap.size = w1.heap.size + 2 := by rw [← hW1]; simp
    have m5 : W1.cell? ⟨w1.heap.size, 5, none⟩ = some (.int .u8 (D.sp k).rd) := cell_of p1 5
    have c15 : ∀ j, W1.cell? ⟨V.b15, j, none⟩ = w1.cell? ⟨V.b15, j, none⟩ := fun j => hB1.cell (p := ⟨V.b15, j, none⟩) n15
    have r0 := (c15 0).trans q0
    have r1 := (c15 1).trans q1
    have r2 := (c15 2).trans q2
    have r3 := (c15 3).trans q3
    have HW1 := hid (And.intro p1 (And.intro p2 hB1))
    clear hW1 p1 p2 hB1 c15
    go_upto_region 32 with (go_at_call 6; refine (set_any (D.sp k).rd hrB W1).mono ?_; rintro e Wa ⟨rfl, hBa, hxa⟩; have z4 : Wa.cell? ⟨w1.heap.size + 1, 4, none⟩ = some (.map none) := (hBa.cell (p := ⟨w1.heap.size + 1, 4, none⟩) (by simp; omega)).trans (cell_of HW1.out.2.1 4); have f4 : Wa.frozen? ⟨w1.heap.size + 1, 4, none⟩ = false := (hBa.frozen (p := ⟨w1.heap.size + 1, 4, none⟩) (by simp; omega)).trans (frozen_of HW1.out.2.1 4); have HBa := hid hBa; have HXa := hid hxa; clear hBa hxa)
    have a1 : Wa.heap[w1.heap.size]? = some (.cells (spA (D.sp k)) 27 (0, 0)) := (HBa.out.block _ (by omega)).trans HW1.out.1
    have a2 : Wa.heap[w1.heap.size + 1]? = some (.cells #[ptr (A .st), .int .i64 ((k : Int) + 1), .nilIface, .pointer none, .map none, .map none, .int .i32 0, .int .i32 0, .slice none 0 0, .map none, .nilFunc] 107 (0, 0)) := (HBa.out.block _ (by omega)).trans HW1.out.2.1
    have hsa : w1.heap.size + 2 ≤ Wa.heap.size := by have := HBa.out.size; omega
    have hBa1 : Below w1.heap.size w1 Wa := HW1.out.2.2.trans ⟨HBa.out.os, HBa.out.tape, HBa.out.output, HBa.out.size, fun b hb => HBa.out.block b (by omega)⟩
    generalize hW2 : Wa.setCell ⟨w1.heap.size + 1, 4, none⟩ _ = W2
    have g1 : W2.heap[w1.heap.size]? = some (.cells (spA (D.sp k)) 27 (0, 0)) := by rw [← hW2, heap_setCell_ne _ (by omega)]; exact a1
    have g2 : W2.heap[w1.heap.size + 1]? = some (.cells #[ptr (A .st), .int .i64 ((k : Int) + 1), .nilIface, .pointer none, .map (setOpt (D.sp k).rd (w1.heap.size + 2 + 1)), .map none, .int .i32 0, .int .i32 0, .slice none 0 0, .map none, .nilFunc] 107 (0, 0)) := by rw [← hW2]; exact heap_setCell_at _ a2
    have g3 : bitsOf (D.sp k).rd ≠ [] → W2.heap[w1.heap.size + 3]? = some (.map (setEnts (D.sp k).rd) (bitsOf (D.sp k).rd).length) := fun e => by
      rw [← hW2, heap_setCell_ne _ (by omega)]
      have := HXa.out e
      rw [hs1] at this
      exact this
    have hB2 : Below w1.heap.size w1 W2 := by
      rw [← hW2]
      exact ⟨hBa1.os, hBa1.tape, hBa1.output, by simpa using hBa1.size, fun b hb => (heap_setCell_ne _ (by omega)).trans (hBa1.block b hb)⟩
    have hs2 : W2.heap.size = Wa.heap.size := by rw [← hW2]; simp
    have m6 : W2.cell? ⟨w1.heap.size, 6, none⟩ = some (.int .u8 (D.sp k).wr) := cell_of g1 6
    have c15 : ∀ j, W2.cell? ⟨V.b15, j, none⟩ = w1.cell? ⟨V.b15, j, none⟩ := fun j => hB2.cell (p := ⟨V.b15, j, none⟩) n15
    have r0' := (c15 0).trans q0
    have r1' := (c15 1).trans q1
    have r2' := (c15 2).trans q2
    have r3' := (c15 3).trans q3
    have HW2 := hid (And.intro g1 (And.intro g2 (And.intro g3 hB2)))
    clear hW2 g1 g2 g3 hB2 c15 a1 a2 hBa1 HBa HXa HW1 r0 r1 r2 r3 m5 z4 f4
    go_upto_region 33 with (go_at_call 6; refine (set_any (D.sp k).wr hwB W2).mono ?_; rintro e Wb ⟨rfl, hBb, hxb⟩; have z5 : Wb.cell? ⟨w1.heap.size + 1, 5, none⟩ = some (.map none) := (hBb.cell (p := ⟨w1.heap.size + 1, 5, none⟩) (by simp; omega)).trans (cell_of HW2.out.2.1 5); have f5 : Wb.frozen? ⟨w1.heap.size + 1, 5, none⟩ = false := (hBb.frozen (p := ⟨w1.heap.size + 1, 5, none⟩) (by simp; omega)).trans (frozen_of HW2.out.2.1 5); have HBb := hid hBb; have HXb := hid hxb; clear hBb hxb)
    have b1 : Wb.heap[w1.heap.size]? = some (.cells (spA (D.sp k)) 27 (0, 0)) := (HBb.out.block _ (by omega)).trans HW2.out.1
    have b2 := (HBb.out.block _ (by omega)).trans HW2.out.2.1
    have b3 : bitsOf (D.sp k).rd ≠ [] → Wb.heap[w1.heap.size + 3]? = some (.map (setEnts (D.sp k).rd) (bitsOf (D.sp k).rd).length) := fun e => by
      have := HW2.out.2.2.1 e
      exact (HBb.out.block _ (Array.getElem?_eq_some_iff.1 this).1).trans this
    have hsb : Wa.heap.size ≤ Wb.heap.size := by have := HBb.out.size; omega
    have hBb1 : Below w1.heap.size w1 Wb := HW2.out.2.2.2.trans ⟨HBb.out.os, HBb.out.tape, HBb.out.output, HBb.out.size, fun b hb => HBb.out.block b (by omega)⟩
    generalize hW3 : Wb.setCell ⟨w1.heap.size + 1, 5, none⟩ _ = W3
    have hs3 : W3.heap.size = Wb.heap.size := by rw [← hW3]; simp
    have hB3 : Below w1.heap.size w1 W3 := by
      rw [← hW3]
      exact ⟨hBb1.os, hBb1.tape, hBb1.output, by simpa using hBb1.size, fun b hb => (heap_setCell_ne _ (by omega)).trans (hBb1.block b hb)⟩
    have hRa : Ra D A w1.heap.size k Wa.heap.size W3.heap.size W3.heap.size false false 0 (w1.heap.size + 3) (Wa.heap.size + 1) 0 0 0 W3 := by
      have hxb := HXb.out
      rw [hs2] at hxb
      have hz : ∀ b, b ≠ w1.heap.size + 1 → W3.heap[b]? = Wb.heap[b]? := fun b hb => by rw [← hW3, heap_setCell_ne _ hb]
      refine ⟨(hz _ (by omega)).trans b1, ?_, (fun e => by cases e), fun e => (hz _ (by omega)).trans (b3 e), fun e => (hz _ (by omega)).trans (hxb e), (fun e => by cases e), ?_, by omega, Nat.le_refl _, Nat.le_refl _, fun e => ⟨by omega, ?_⟩, fun e => ⟨by omega, ?_⟩, (fun e => by cases e), (fun e => by cases e)⟩
      · rw [← hW3, heap_setCell_at _ b2]
        unfold uA
        rw [setVal_eq, setVal_eq]
        rfl
      · omega
      · have := (Array.getElem?_eq_some_iff.1 (HW2.out.2.2.1 e)).1
        omega
      · have := (Array.getElem?_eq_some_iff.1 (hxb e)).1
        omega
    have HB3 := hid hB3
    have HRa := hid hRa
    clear hW3 hB3 hRa b1 b2 b3 hBb1 HBb HXb HW2 r0' r1' r2' r3' m6 z5 f5 hsa hsb hs1 hs2 hs3 q0 q1 q2 q3 s0 s1 s2 s3 s4 s5 s6 hspc hsp
    rename_i K2 a2 K1 a1 K0 a0
    obtain ⟨M2, hM2⟩ : ∃ M2 : Act → World → Prop, M2 = fun a W => ∃ f pn pl c3, a = ⟨frm f, []⟩ ∧ SlR D V A cap k w1.heap.size f ∧ Below w1.heap.size w1 W ∧ Ra D A w1.heap.size k Wa.heap.size W3.heap.size c3 false (D.sp k).park 0 (w1.heap.size + 3) (Wa.heap.size + 1) 0 pn pl W := ⟨_, rfl⟩
    have HM2 := hid hM2
    clear hM2
    refine (fun cut2 => ?_) (?_ : ∀ a W, M2 a W → K1 a W)
    · clear a1
      have m4 : W3.cell? ⟨w1.heap.size, 4, none⟩ = some (.bool (D.sp k).park) := cell_of HRa.out.sp 4
      cases hpk : (D.sp k).park
      · rw [hpk] at m4
        go_wp2_with fail
        rw [HM2.out]
        refine ⟨nth (Array.toList _), 0, 0, W3.heap.size, congrArg (fun x => Act.mk x []) (frm_of _ ?_).symm, ⟨⟨sl1.s1, sl1.s7, sl1.s11, sl1.s12, sl1.s13, rfl, rfl, sl1.s17, rfl, sl1.s19, rfl, rfl, rfl, rfl, rfl⟩, rfl, rfl, rfl, rfl, rfl⟩, HB3.out, ?_⟩
        · rfl
        · rw [hpk]; exact HRa.out
      · rw [hpk] at m4
        have hsz3 : w1.heap.size + 1 < W3.heap.size := (Array.getElem?_eq_some_iff.1 HRa.out.ux).1
        have z10 : ((W3.alloc (.cells #[.pointer (some ⟨A .log, 0, none⟩)] 110)).alloc (.cells #[.int .i64 ((k : Int) + 1)] 3)).cell? ⟨w1.heap.size + 1, 10, none⟩ = some .nilFunc := by
          rw [World.cell?_alloc_past _ _ _ (by simp; omega), World.cell?_alloc_past _ _ _ hsz3]
          exact cell_of HRa.out.ux 10
        have f10 : ((W3.alloc (.cells #[.pointer (some ⟨A .log, 0, none⟩)] 110)).alloc (.cells #[.int .i64 ((k : Int) + 1)] 3)).frozen? ⟨w1.heap.size + 1, 10, none⟩ = false := by
          rw [World.frozen?_alloc_past _ _ _ (by simp; omega), World.frozen?_alloc_past _ _ _ hsz3]
          exact frozen_of HRa.out.ux 10
        go_wp2_with (go_at_call 7; refine (park_any (A .log) ((k : Int) + 1) W3).mono ?_; rintro e Wp ⟨rfl, rfl⟩; unfold ptr)
        rw [HM2.out]
        refine ⟨nth (Array.toList _), W3.heap.size + 1, W3.heap.size, W3.heap.size + 2, congrArg (fun x => Act.mk x []) (frm_of _ ?_).symm, ⟨⟨sl1.s1, sl1.s7, sl1.s11, sl1.s12, sl1.s13, rfl, rfl, sl1.s17, rfl, sl1.s19, rfl, rfl, rfl, rfl, rfl⟩, rfl, rfl, rfl, rfl, rfl⟩, ?_, ?_⟩
        · rfl
        · have hb := HB3.out
          refine ⟨hb.os, hb.tape, hb.output, ?_, fun b hlb => ?_⟩
          · have := hb.size
            simp
            omega
          · rw [heap_setCell_ne _ (by omega), heap_alloc_old _ _ (by simp; omega), heap_alloc_old _ _ (by omega)]
            exact hb.block b hlb
        · rw [hpk]; exact HRa.out.park
    clear a0 K0
    intro a W4 hM
    rw [HM2.out] at hM
    obtain ⟨f4, pn, pl, c3, rfl, slr, hB4, hRa4⟩ := hM
    refine a1 _ _ ?_
    clear a1 HB3 HRa
    refine seq_piece (piece35 D V A cap xcap k cv w0 w1 f4 W4 _ _ c3 _ _ pn pl hon hlt HRD.out slr hB4 hRa4) ?_
    intro a W5 hM5
    refine run_piece (piece43 D V A cap xcap k cv w0 w1 _ _ _ _ pn pl hon hlt HRD.out a W5 hM5) ?_
    intro a W6 hM6
    show K2 _ _
    refine a2 _ _ ?_
    obtain ⟨f6, A6, cv6, rfl, sl6, e27', e28', hrd6⟩ := hM6
    unfold frm
    rw [e28']
    go_wp2_with fail
    rw [HI.out, HM.out]
    refine ⟨⟨nth (Array.toList _), k + 1, A6, cv6, congrArg (fun x => Act.mk x []) (frm_of _ ?_).symm, ⟨sl6.s1, sl6.s7, sl6.s11, sl6.s12, sl6.s13, sl6.s15, sl6.s16, sl6.s17, sl6.s18, sl6.s19, sl6.s22, sl6.s23, sl6.s24, sl6.s25, sl6.s26⟩, (by first | exact e27' | rfl), ?_, by omega, hrd6⟩, ?_⟩
    · rfl
    · show Value.int _ _ = _
      go_num
    · simp [nth, intOf]
      omega
  · have : k = D.on + 1 := by omega
    subst this
    have hc : ((D.on + 1 : Nat) : Int) = (D.on : Int) + 1 := by omega
    have HRD := hid hrd
    clear hrd
    go_wp2_with fail
    refine leave HR _ (by rfl) ?_
    intro f' hf'
    exact HH.out f' w1 A cv ⟨(hf' 1).trans sl1.s1, (hf' 7).trans sl1.s7, (hf' 11).trans sl1.s11, (hf' 12).trans sl1.s12, (hf' 13).trans sl1.s13, hf' 15, hf' 16, (hf' 17).trans sl1.s17, hf' 18, (hf' 19).trans sl1.s19, hf' 22, hf' 23, hf' 24, hf' 25, hf' 26⟩ (hf' 27) HRD.out
end Go.Proofs.Ybulkedxc
