/-
  LawS6515BWhole: statement 28: the notes are as they were.
-/
import Derived.Test.YbulkedxcU26
import Derived.Test.YbulkedxcEq
namespace Go.Proofs.Ybulkedxc
open Go.RowKit
attribute [local simp] setO_size setT_same
set_option linter.unusedSimpArgs false
set_option linter.unusedVariables false
set_option linter.unnecessarySimpa false

set_option maxRecDepth 100000 in
set_option maxHeartbeats 3200000 in
theorem sec28 (D : Inp) (V : Var) (A : Role → Nat) (S : Sys) (lx : List Int) (cv : Value) (cap xcap : Nat) (ib : Nat → Nat) (nv nv2 cy2 : Value) (ob : Nat) (w0 W w : World) (Q : Exit → Act → World → Prop) (f : Nat → Value) (hD : InpAt D w0) (sl : Sl3 D V A cap nv nv2 cy2 ob f) (ha : Aft D V A S lx cv xcap ib nv nv2 cy2 ob w0 W) (hb : Below W.heap.size W w)
    (h : ∀ f' w', Sl3 D V A cap nv nv2 cy2 ob f' → Below W.heap.size W w' → WpT 29 Q f' w') : WpT 28 Q f w := by
  have HH := hid h
  have HD := hid hD
  have HA := hid ha
  have hnn := hD.nnB
  have hnn' : (D.nn : Int) ≤ 65536 := by omega
  have hnn0 : (0 : Int) ≤ (D.nn : Int) := by omega
  have HB0 := hid hb
  obtain ⟨na', nc', hnv, hnaN⟩ := ha.nv0
  clear h hD ha hb
  refine sect 28 1 (by kernel_rfl) (by kernel_rfl) ?_
  intro r hr
  have HR := hid hr
  clear hr
  show (Code.seq _ r).wp Yba.prog Q _ _
  obtain ⟨I, hI⟩ : ∃ I : Act → World → Prop, I = fun a w1 => ∃ (f1 : Nat → Value) (k : Nat), a = ⟨frm f1, []⟩ ∧ Sl3 D V A cap nv nv2 cy2 ob f1 ∧ f1 42 = .int .i64 k ∧ k ≤ D.nn ∧ Below W.heap.size W w1 := ⟨_, rfl⟩
  obtain ⟨M, hM⟩ : ∃ M : Act → World → Nat, M = fun a _ => D.nn - (intOf (nth a.tmps.toList 42)).toNat := ⟨_, rfl⟩
  have HI := hid hI
  have HM := hid hM
  clear hI hM
  unfold frm
  go_wp2_with fail
  refine wp_loop I M ?_ ?_
  · rw [HI.out]
    refine ⟨nth (Array.toList _), 0, congrArg (fun x => Act.mk x []) (frm_of _ ?_).symm, sl.of (fun i hi => ?_), rfl, by omega, HB0.out⟩
    · rfl
    · simp at hi
      rcases hi with rfl | rfl | rfl | rfl | rfl | rfl | rfl | rfl | rfl | rfl | rfl | rfl | rfl | rfl | rfl | rfl | rfl | rfl | rfl | rfl <;> rfl
  clear HB0 sl
  intro a1 w1 h1
  rw [HI.out] at h1
  obtain ⟨f1, k, rfl, sl1, e42, hk, hb⟩ := h1
  unfold frm
  rw [e42, sl1.sl.s7, sl1.s34, sl1.s38]
  unfold ptr
  by_cases hlt : k < D.nn
  · have hki : (k : Int) < (D.nn : Int) := by omega
    have hkp : (0 : Int) ≤ (k : Int) := by omega
    have h0 : 0 < D.nn := by omega
    obtain ⟨g, c, hg, hN⟩ := HA.out.nvS h0
    obtain ⟨g2, c2, hg2, hN2⟩ := HA.out.nv2S h0
    have HS1 := hid sl1
    clear sl1 hnv
    rw [hg, hg2]
    have lt2 : g2 < W.heap.size := by
      have := hN2 k hlt
      unfold World.cell? at this
      rcases Nat.lt_or_ge g2 W.heap.size with h | h
      · exact h
      · simp [Array.getElem?_eq_none h] at this
    have c1 : w1.cell? ⟨g, k, none⟩ = some (noteV (ntD D ib) k) := (hb.cell (p := ⟨g, k, none⟩) hN.lt).trans (hN.cell k hlt)
    have c2' : w1.cell? ⟨g2, k, none⟩ = some (noteV (ntD D ib) k) := (hb.cell (p := ⟨g2, k, none⟩) lt2).trans (hN2 k hlt)
    have m7 : V.e7 < W.heap.size := (Array.getElem?_eq_some_iff.1 HA.out.vars.e7).1
    obtain ⟨na, hna, hnb, d0, d1, d2⟩ := HD.out.note k hlt
    have hBW : w0.heap.size ≤ W.heap.size := HA.out.old.size
    have hnbW : na.block < W.heap.size := by omega
    have hvl : noteV (ntD D ib) k = cond (D.np k) (.iface 122 (.pointer (some ⟨ib k, 0, none⟩))) (.iface 121 (.agg #[.string (D.nit k), .int .i64 (D.nvl k)])) := rfl
    -- behind the call
    have fin : ∀ W3 : World, Below W.heap.size W W3 → W3.cell? ⟨V.e7, 6, none⟩ = some (.slice (some na) D.nn D.nc) ∧ W3.cell? ⟨(na.add (k * 3)).block, (na.add (k * 3)).off + 1, none⟩ = some (.string (D.nit k)) ∧ W3.cell? ⟨(na.add (k * 3)).block, (na.add (k * 3)).off + 2, none⟩ = some (.int .i64 (D.nvl k)) := by
      intro W3 hb3
      have hcell : ∀ j, W3.cell? (na.add j) = w0.cell? (na.add j) := fun j => by
        rw [hb3.cell (by rw [add_block]; exact hnbW)]
        exact HA.out.old.cell (by rw [add_block]; exact hnb)
      refine ⟨?_, ?_, ?_⟩
      · rw [hb3.cell (p := ⟨V.e7, 6, none⟩) m7, ← hna]
        exact cell_of HA.out.vars.e7 6
      · rw [show (⟨(na.add (k * 3)).block, (na.add (k * 3)).off + 1, none⟩ : Addr) = (na.add (k * 3)).add 1 from rfl, Addr.add_add]; exact (hcell _).trans d1
      · rw [show (⟨(na.add (k * 3)).block, (na.add (k * 3)).off + 2, none⟩ : Addr) = (na.add (k * 3)).add 2 from rfl, Addr.add_add]; exact (hcell _).trans d2
    have HFIN := hid fin
    have HN := hid hN
    have HB := hid hb
    have n1 := neq_121
    clear fin hN hN2 hb d0 d1 d2
    rw [hvl] at c1 c2'
    cases hp : D.np k
    · rw [hp] at c1 c2'
      simp only [cond_false] at c1 c2'
      have n2 := neq_plain
      go_wp2_with fail
      go_quiet (fail)
      go_upto_region 77 with (go_at_call 12; refine (value12_plain (D.nit k) (D.nvl k) _).mono ?_; rintro e W2 ⟨rfl, hB2⟩; have HB2 := hid hB2; clear hB2)
      generalize hW3 : W2.alloc _ = W3
      have hb3 : Below W.heap.size W W3 := by
        have hb := HB.out
        have hb2 := HB2.out
        have b1 : Below W.heap.size W W2 := ⟨hb2.os.trans hb.os, hb2.tape.trans hb.tape, hb2.output.trans hb.output, Nat.le_trans hb.size hb2.size, fun x hx => (hb2.block x (by have := hb.size; simp; omega)).trans (hb.block x hx)⟩
        rw [← hW3]
        exact b1.alloc (by have := b1.size; omega) _
      obtain ⟨x6, x1, x2⟩ := HFIN.out W3 hb3
      have y0 : W3.cell? ⟨W2.heap.size, 0, none⟩ = some (.string (D.nit k)) := by rw [← hW3]; simp
      have y1 : W3.cell? ⟨W2.heap.size, 1, none⟩ = some (.int .i64 (D.nvl k)) := by rw [← hW3]; simp
      have HB3 := hid hb3
      clear hW3 hb3 c1 c2'
      go_quiet (fail)
      go_wp2_with fail
      rw [HI.out, HM.out]
      refine ⟨⟨nth (Array.toList _), k + 1, congrArg (fun x => Act.mk x []) (frm_of _ ?_).symm, HS1.out.of (fun i hi => ?_), ?_, by omega, ?_⟩, ?_⟩
      · rfl
      · simp at hi
        rcases hi with rfl | rfl | rfl | rfl | rfl | rfl | rfl | rfl | rfl | rfl | rfl | rfl | rfl | rfl | rfl | rfl | rfl | rfl | rfl | rfl <;> first | rfl | exact HS1.out.sl.s7.symm | exact hg.symm.trans HS1.out.s34.symm | exact hg2.symm.trans HS1.out.s38.symm
      · show Value.int _ _ = _
        go_num
      · have hb := HB3.out
        exact ⟨hb.os, hb.tape, hb.output, hb.size, hb.block⟩
      · simp [nth, intOf]
        omega
    · rw [hp] at c1 c2'
      simp only [cond_true] at c1 c2'
      have n2 := neq_ptr
      obtain ⟨q1, q2, q3⟩ := HN.out.ptr k hlt hp
      have q1 : ib k < W.heap.size := q1
      have p0 : w1.cell? ⟨ib k, 0, none⟩ = some (.string (D.nit k)) := (HB.out.cell (p := ⟨ib k, 0, none⟩) q1).trans q2
      have p1 : w1.cell? ⟨ib k, 1, none⟩ = some (.int .i64 (D.nvl k)) := (HB.out.cell (p := ⟨ib k, 1, none⟩) q1).trans q3
      have hszw : W.heap.size ≤ w1.heap.size := HB.out.size
      go_wp2_with fail
      go_quiet (fail)
      go_upto_region 77 with (go_at_call 12; refine (value12_ptr (ib k) (D.nit k) (D.nvl k) _ (by simp; omega) (by simpa using p0) (by simpa using p1)).mono ?_; rintro e W2 ⟨rfl, hB2⟩; have HB2 := hid hB2; clear hB2)
      generalize hW3 : W2.alloc _ = W3
      have hb3 : Below W.heap.size W W3 := by
        have hb := HB.out
        have hb2 := HB2.out
        have b1 : Below W.heap.size W W2 := ⟨hb2.os.trans hb.os, hb2.tape.trans hb.tape, hb2.output.trans hb.output, Nat.le_trans hb.size hb2.size, fun x hx => (hb2.block x (by have := hb.size; simp; omega)).trans (hb.block x hx)⟩
        rw [← hW3]
        exact b1.alloc (by have := b1.size; omega) _
      obtain ⟨x6, x1, x2⟩ := HFIN.out W3 hb3
      have y0 : W3.cell? ⟨W2.heap.size, 0, none⟩ = some (.string (D.nit k)) := by rw [← hW3]; simp
      have y1 : W3.cell? ⟨W2.heap.size, 1, none⟩ = some (.int .i64 (D.nvl k)) := by rw [← hW3]; simp
      have HB3 := hid hb3
      clear hW3 hb3 c1 c2'
      go_quiet (fail)
      go_wp2_with fail
      rw [HI.out, HM.out]
      refine ⟨⟨nth (Array.toList _), k + 1, congrArg (fun x => Act.mk x []) (frm_of _ ?_).symm, HS1.out.of (fun i hi => ?_), ?_, by omega, ?_⟩, ?_⟩
      · rfl
      · simp at hi
        rcases hi with rfl | rfl | rfl | rfl | rfl | rfl | rfl | rfl | rfl | rfl | rfl | rfl | rfl | rfl | rfl | rfl | rfl | rfl | rfl | rfl <;> first | rfl | exact HS1.out.sl.s7.symm | exact hg.symm.trans HS1.out.s34.symm | exact hg2.symm.trans HS1.out.s38.symm
      · show Value.int _ _ = _
        go_num
      · have hb := HB3.out
        exact ⟨hb.os, hb.tape, hb.output, hb.size, hb.block⟩
      · simp [nth, intOf]
        omega
  · have : k = D.nn := by omega
    subst this
    have HS1 := hid sl1
    have HB := hid hb
    clear sl1 hb
    rw [hnv]
    go_wp2_with fail
    refine leave HR _ (by rfl) ?_
    intro f' hf'
    refine HH.out f' w1 (HS1.out.of (fun i hi => ?_)) HB.out
    simp at hi
    rcases hi with rfl | rfl | rfl | rfl | rfl | rfl | rfl | rfl | rfl | rfl | rfl | rfl | rfl | rfl | rfl | rfl | rfl | rfl | rfl | rfl <;> first | exact hf' _ | exact (hf' 7).trans HS1.out.sl.s7.symm | exact ((hf' 34).trans hnv.symm).trans HS1.out.s34.symm | exact (hf' 38).trans HS1.out.s38.symm
end Go.Proofs.Ybulkedxc
