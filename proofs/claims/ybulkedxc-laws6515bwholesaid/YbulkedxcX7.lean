/-
  LawS6515BWhole: statements 35 to 37.
-/
import Derived.Test.YbulkedxcX6
namespace Go.Proofs.Ybulkedxc
open Go.RowKit
attribute [local simp] setO_size setT_same
set_option linter.unusedSimpArgs false
set_option linter.unusedVariables false
set_option linter.unnecessarySimpa false

theorem inBlock_exit (n : Nat) (Q : Exit → Act → World → Prop) (a : Act) (w : World) : Exit.inBlock n Q (.exit n) a w = Q .normal a w := if_pos rfl

set_option maxRecDepth 100000 in
set_option maxHeartbeats 3200000 in
theorem sec35 (D : Inp) (V : Var) (A : Role → Nat) (S : Sys) (lx : List Int) (cv : Value) (cap xcap : Nat) (ib : Nat → Nat) (nv nv2 cy2 : Value) (ob : Nat) (w0 W w : World) (Q : Exit → Act → World → Prop) (f : Nat → Value) (hD : InpAt D w0) (sl : Sl3 D V A cap nv nv2 cy2 ob f) (ha : Aft D V A S lx cv xcap ib nv nv2 cy2 ob w0 W) (hb : Below W.heap.size W w)
    (h : ∀ f' w' ev, Sl3 D V A cap nv nv2 cy2 ob f' → f' 51 = .int .i64 (nlv D (D.on + 1) : Nat) → f' 52 = .int .i64 (nwt D (D.on + 1) : Nat) → f' 53 = ev → Ev D W.heap.size ev (D.on + 1) w' → Below W.heap.size W w' → WpT 38 Q f' w') : WpT 35 Q f w := by
  have HH := hid h
  have HA := hid ha
  have HD := hid hD
  have hon := hD.onB
  have hon' : (D.on : Int) ≤ 1024 := by omega
  have hon0 : (0 : Int) ≤ (D.on : Int) := by omega
  have HB0 := hid hb
  have HS := hid sl
  clear h hD ha hb
  refine sect 35 3 (by kernel_rfl) (by kernel_rfl) ?_
  intro r hr
  have HR := hid hr
  clear hr
  show (Code.seq _ (Code.seq _ (Code.seq _ r))).wp Yba.prog Q _ _
  obtain ⟨I, hI⟩ : ∃ I : Act → World → Prop, I = fun a w1 => ∃ (f1 : Nat → Value) (k : Nat) (ev : Value), a = ⟨frm f1, []⟩ ∧ Sl3 D V A cap nv nv2 cy2 ob f1 ∧ f1 51 = .int .i64 (nlv D k : Nat) ∧ f1 52 = .int .i64 (nwt D k : Nat) ∧ f1 53 = ev ∧ f1 54 = .int .i64 k ∧ k ≤ D.on + 1 ∧ Ev D W.heap.size ev k w1 ∧ Below W.heap.size W w1 := ⟨_, rfl⟩
  obtain ⟨M, hM⟩ : ∃ M : Act → World → Nat, M = fun a _ => D.on + 1 - (intOf (nth a.tmps.toList 54)).toNat := ⟨_, rfl⟩
  have HI := hid hI
  have HM := hid hM
  clear hI hM
  unfold frm
  go_wp2_with fail
  refine wp_loop I M ?_ ?_
  · rw [HI.out]
    refine in_frm9 (M := fun a w1 => ∃ (f1 : Nat → Value) (k : Nat) (ev : Value), a = ⟨frm f1, []⟩ ∧ Sl3 D V A cap nv nv2 cy2 ob f1 ∧ f1 51 = .int .i64 (nlv D k : Nat) ∧ f1 52 = .int .i64 (nwt D k : Nat) ∧ f1 53 = ev ∧ f1 54 = .int .i64 k ∧ k ≤ D.on + 1 ∧ Ev D W.heap.size ev k w1 ∧ Below W.heap.size W w1) _ (by rfl) ?_
    intro f' hf'
    refine ⟨f', 0, .slice none 0 0, rfl, HS.out.of (fun i hi => ?_), hf' 51, hf' 52, hf' 53, hf' 54, by omega, ⟨rfl, Or.inl ⟨rfl, rfl⟩⟩, HB0.out⟩
    simp at hi
    rcases hi with rfl | rfl | rfl | rfl | rfl | rfl | rfl | rfl | rfl | rfl | rfl | rfl | rfl | rfl | rfl | rfl | rfl | rfl | rfl | rfl <;> exact hf' _
  clear HB0 sl HS
  intro a1 w1 h1
  rw [HI.out] at h1
  obtain ⟨f1, k, ev, rfl, sl1, e51, e52, e53, e54, hk, hev, hb⟩ := h1
  have hX : M ⟨frm f1, []⟩ w1 = D.on + 1 - k := by
    rw [HM.out]
    show D.on + 1 - (intOf (nth (frm f1).toList 54)).toNat = _
    rw [show nth (frm f1).toList 54 = f1 54 from rfl, e54]
    simp [intOf]
  rw [hX]
  clear hX
  refine cutc _ 1 (by rfl) ?_
  intro r2 hr2
  have HR2 := hid hr2
  clear hr2
  show (Code.seq _ r2).wp Yba.prog _ _ _
  by_cases hlt : k < D.on + 1
  · have hki : (k : Int) < (D.on : Int) + 1 := by omega
    have hkp : (0 : Int) ≤ (k : Int) := by omega
    have HS1 := hid sl1
    have H5 := hid (And.intro e51 (And.intro e52 e53))
    have HEV := hid hev
    have HB := hid hb
    unfold frm
    rw [e54, sl1.sl.s23]
    clear sl1 e51 e52 e53 e54 hev hb
    go_wp2_with fail
    refine HR2.out _ _ ?_
    refine in_frm9 (M := fun a w => Code.wp Yba.prog _ _ a w) _ (by rfl) ?_
    intro f' hf'
    show (Code.seq _ _).wp Yba.prog _ _ _
    refine wp_seq (wp_block ?_)
    refine body9 D V A S lx cv cap xcap ib nv nv2 cy2 ob k ev w0 W w1 f' _ HD.out hon hlt HA.out HB.out HEV.out (HS1.out.of (fun i hi => ?_)) ((hf' 51).trans H5.out.1) ((hf' 52).trans H5.out.2.1) ((hf' 53).trans H5.out.2.2) (hf' 54) (fun a w' hm => ?_) (fun a w' hm => ?_)
    · simp at hi
      rcases hi with rfl | rfl | rfl | rfl | rfl | rfl | rfl | rfl | rfl | rfl | rfl | rfl | rfl | rfl | rfl | rfl | rfl | rfl | rfl | rfl <;> first | exact hf' _ | exact (hf' 23).trans HS1.out.sl.s23.symm
    · obtain ⟨f2, ev2, rfl, sl2, g51, g52, g53, g54, hev2, hb2⟩ := hm
      show Code.wp Yba.prog _ _ _ _
      have G5 := hid (And.intro g51 (And.intro g52 g53))
      have GS := hid sl2
      have GE := hid hev2
      have GB := hid hb2
      unfold frm
      rw [g54]
      clear g51 g52 g53 g54 sl2 hev2 hb2
      go_wp2_with fail
      rw [HI.out, HM.out]
      refine in_frm9 (M := fun a w' => (∃ (f1 : Nat → Value) (k : Nat) (ev : Value), a = ⟨frm f1, []⟩ ∧ Sl3 D V A cap nv nv2 cy2 ob f1 ∧ f1 51 = .int .i64 (nlv D k : Nat) ∧ f1 52 = .int .i64 (nwt D k : Nat) ∧ f1 53 = ev ∧ f1 54 = .int .i64 k ∧ k ≤ D.on + 1 ∧ Ev D W.heap.size ev k w' ∧ Below W.heap.size W w') ∧ D.on + 1 - (intOf (nth a.tmps.toList 54)).toNat < D.on + 1 - k) _ (by rfl) ?_
      intro f3 hf3
      refine ⟨⟨f3, k + 1, ev2, rfl, GS.out.of (fun i hi => ?_), (hf3 51).trans G5.out.1, (hf3 52).trans G5.out.2.1, (hf3 53).trans G5.out.2.2, (hf3 54).trans ?_, by omega, GE.out, GB.out⟩, ?_⟩
      · simp at hi
        rcases hi with rfl | rfl | rfl | rfl | rfl | rfl | rfl | rfl | rfl | rfl | rfl | rfl | rfl | rfl | rfl | rfl | rfl | rfl | rfl | rfl <;> exact hf3 _
      · show Value.int _ _ = _
        go_num
      · show D.on + 1 - (intOf (nth (frm f3).toList 54)).toNat < _
        rw [show nth (frm f3).toList 54 = f3 54 from rfl, hf3 54]
        simp [nth, intOf]
        omega
    · obtain ⟨f2, ev2, rfl, sl2, g51, g52, g53, g54, hev2, hb2⟩ := hm
      rw [inBlock_exit]
      show Code.wp Yba.prog _ _ _ _
      have G5 := hid (And.intro g51 (And.intro g52 g53))
      have GS := hid sl2
      have GE := hid hev2
      have GB := hid hb2
      unfold frm
      rw [g54]
      clear g51 g52 g53 g54 sl2 hev2 hb2
      go_wp2_with fail
      rw [HI.out, HM.out]
      refine in_frm9 (M := fun a w' => (∃ (f1 : Nat → Value) (k : Nat) (ev : Value), a = ⟨frm f1, []⟩ ∧ Sl3 D V A cap nv nv2 cy2 ob f1 ∧ f1 51 = .int .i64 (nlv D k : Nat) ∧ f1 52 = .int .i64 (nwt D k : Nat) ∧ f1 53 = ev ∧ f1 54 = .int .i64 k ∧ k ≤ D.on + 1 ∧ Ev D W.heap.size ev k w' ∧ Below W.heap.size W w') ∧ D.on + 1 - (intOf (nth a.tmps.toList 54)).toNat < D.on + 1 - k) _ (by rfl) ?_
      intro f3 hf3
      refine ⟨⟨f3, k + 1, ev2, rfl, GS.out.of (fun i hi => ?_), (hf3 51).trans G5.out.1, (hf3 52).trans G5.out.2.1, (hf3 53).trans G5.out.2.2, (hf3 54).trans ?_, by omega, GE.out, GB.out⟩, ?_⟩
      · simp at hi
        rcases hi with rfl | rfl | rfl | rfl | rfl | rfl | rfl | rfl | rfl | rfl | rfl | rfl | rfl | rfl | rfl | rfl | rfl | rfl | rfl | rfl <;> exact hf3 _
      · show Value.int _ _ = _
        go_num
      · show D.on + 1 - (intOf (nth (frm f3).toList 54)).toNat < _
        rw [show nth (frm f3).toList 54 = f3 54 from rfl, hf3 54]
        simp [nth, intOf]
        omega
  · have : k = D.on + 1 := by omega
    subst this
    have hc : ((D.on + 1 : Nat) : Int) = (D.on : Int) + 1 := by omega
    have HS1 := hid sl1
    have H5 := hid (And.intro e51 (And.intro e52 e53))
    have HEV := hid hev
    have HB := hid hb
    unfold frm
    rw [e54, sl1.sl.s23]
    clear sl1 e51 e52 e53 e54 hev hb
    go_wp2_with fail
    refine leave HR _ (by rfl) ?_
    intro f' hf'
    refine HH.out f' w1 ev (HS1.out.of (fun i hi => ?_)) ((hf' 51).trans H5.out.1) ((hf' 52).trans H5.out.2.1) ((hf' 53).trans H5.out.2.2) HEV.out HB.out
    simp at hi
    rcases hi with rfl | rfl | rfl | rfl | rfl | rfl | rfl | rfl | rfl | rfl | rfl | rfl | rfl | rfl | rfl | rfl | rfl | rfl | rfl | rfl <;> first | exact hf' _ | exact (hf' 23).trans HS1.out.sl.s23.symm
end Go.Proofs.Ybulkedxc
