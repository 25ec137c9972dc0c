/-
  LawS6515BWhole: statement 7: the items.
-/
import Derived.Test.YbulkedxcSt
namespace Go.Proofs.Ybulkedxc
open Go.RowKit
attribute [local simp] setO_size setT_same
set_option linter.unusedSimpArgs false
set_option linter.unusedVariables false
set_option linter.unnecessarySimpa false

/-- a block that is not the table's is turned -/
theorem ItS.other {N B p s l j i : Nat} {xv : Value} {zs : Array Value} {W W' : World} (h : ItS N B p s l xv zs W j i) {x : Nat} (hx : x < N) (hxp : x ≠ p) (hsz : W'.heap.size = W.heap.size) (hb : ∀ b, b ≠ x → W'.heap[b]? = W.heap[b]?) : ItS N B p s l xv zs W' j i := by
  have hc : ∀ k, W'.cell? ⟨p, k, none⟩ = W.cell? ⟨p, k, none⟩ := fun k => by simp [World.cell?, hb p (Ne.symm hxp)]
  refine ⟨h.lt, by rw [hsz]; exact h.size, h.base, (hc _).trans h.c127, (hc _).trans h.c128, (hc _).trans h.c129, (hc _).trans h.c130, (hc _).trans h.c131, ?_, ?_, ?_, h.zsz, h.zin, h.zout, ?_⟩
  · intro k
    have : W'.frozen? ⟨p, k, none⟩ = W.frozen? ⟨p, k, none⟩ := by simp [World.frozen?, hb p (Ne.symm hxp)]
    rw [this]; exact h.fr k
  · exact row_keep h.own (fun b e => hb b (by have := row_lt h.own b e; omega))
  · intro h0
    obtain ⟨s1, s2, s3, s4⟩ := h.hs h0
    exact ⟨s1, by omega, (hb s (by omega)).trans s3, s4⟩
  · intro h4
    obtain ⟨s1, s2, s3, s4, s5⟩ := h.hl h4
    exact ⟨s1, by omega, s3, s4, (hb l (by omega)).trans s5⟩

def xsA (k : Nat) : Array Value := #[.int .i32 0, .int .i32 (cond (decide (1 < k)) 1 0), .int .i32 (cond (decide (2 < k)) 2 0), .int .i32 (cond (decide (3 < k)) 3 0)]
theorem xsA_get (k j : Nat) (hj : j < 4) : ∃ v, (xsA k)[j]? = some v := by
  match j, hj with
  | 0, _ => exact ⟨_, rfl⟩
  | 1, _ => exact ⟨_, rfl⟩
  | 2, _ => exact ⟨_, rfl⟩
  | 3, _ => exact ⟨_, rfl⟩
theorem xsA_set (k : Nat) (hk : k < 4) : (xsA k).setIfInBounds k (.int .i32 k) = xsA (k + 1) := by
  match k, hk with
  | 0, _ => rfl
  | 1, _ => rfl
  | 2, _ => rfl
  | 3, _ => rfl
theorem nmA_get (j : Nat) (hj : j < 4) : nmA[j]? = some (.string (nm j)) := by
  match j, hj with
  | 0, _ => rfl
  | 1, _ => rfl
  | 2, _ => rfl
  | 3, _ => rfl

set_option maxRecDepth 100000 in
set_option maxHeartbeats 3200000 in
theorem sec7 (D : Inp) (L : Loc) (w0 w : World) (N : Nat) (Q : Exit → Act → World → Prop) (f : Nat → Value) (sl : Sl D L f) (hpre : Pre D L w) (ho : L.Ord w0.heap.size N) (hit : ItS N w0.heap.size L.st 0 0 (.slice none 0 0) #[] w 0 0) (hx : w.heap[L.b19]? = some (.cells (xsA 0) 89 (0, 0))) (hold : Old w0.heap.size w0 w)
    (h : ∀ f' w' s l xv zs, Sl D L f' → Pre D L w' → ItS N w0.heap.size L.st s l xv zs w' 4 4 → w'.heap[L.b19]? = some (.cells (xsA 4) 89 (0, 0)) → Old w0.heap.size w0 w' → WpT 8 Q f' w') : WpT 7 Q f w := by
  have HH := hid h
  clear h
  refine sect 7 1 (by kernel_rfl) (by kernel_rfl) ?_
  intro r hr
  have HR := hid hr
  clear hr
  show (Code.seq _ r).wp Yba.prog Q _ _
  have HP := hid (show Pre D L w ∧ ItS N w0.heap.size L.st 0 0 (.slice none 0 0) #[] w 0 0 ∧ w.heap[L.b19]? = some (.cells (xsA 0) 89 (0, 0)) ∧ Old w0.heap.size w0 w from ⟨hpre, hit, hx, hold⟩)
  clear hpre hit hx hold
  unfold frm
  obtain ⟨I, hI⟩ : ∃ I : Act → World → Prop, I = fun a w => ∃ (f : Nat → Value) (k : Nat) (s l : Nat) (xv : Value) (zs : Array Value), a = ⟨frm f, []⟩ ∧ Sl D L f ∧ f 20 = .int .i64 k ∧ k ≤ 4 ∧ Pre D L w ∧ ItS N w0.heap.size L.st s l xv zs w k k ∧ w.heap[L.b19]? = some (.cells (xsA k) 89 (0, 0)) ∧ Old w0.heap.size w0 w := ⟨_, rfl⟩
  obtain ⟨M, hM⟩ : ∃ M : Act → World → Nat, M = fun a _ => 4 - (intOf (nth a.tmps.toList 20)).toNat := ⟨_, rfl⟩
  have HI := hid hI
  have HM := hid hM
  clear hI hM
  go_wp2_with fail
  refine wp_loop I M ?_ ?_
  · rw [HI.out]
    refine ⟨nth (Array.toList _), 0, 0, 0, _, _, congrArg (fun x => Act.mk x []) (frm_of _ ?_).symm, ⟨sl.s1, sl.s3, sl.s7, sl.s9, sl.s11, sl.s12, sl.s13, sl.s15, sl.s16, sl.s17, sl.s18, sl.s19⟩, rfl, by omega, HP.out.1, HP.out.2.1, HP.out.2.2.1, HP.out.2.2.2⟩
    rfl
  · intro a1 w1 h1
    rw [HI.out] at h1
    obtain ⟨f1, k, s, l, xv, zs, rfl, sl1, e20, hk, hpre, hit, hx, hold⟩ := h1
    unfold frm
    rw [e20, sl1.s15, sl1.s18, sl1.s19]
    unfold ptr
    by_cases hlt : k < 4
    · have hki : (k : Int) < 4 := by omega
      have hkp : (0 : Int) ≤ (k : Int) := by omega
      have cn : w1.cell? ⟨L.b15, k, none⟩ = some (.string (nm k)) := by simp [World.cell?, hpre.b15, nmA_get k hlt]
      have HP := hid hpre
      have HT := hid hit
      have HX := hid hx
      have HO := hid hold
      clear hpre hit hx hold
      go_wp2_with (go_at_call 5; refine (item_step HT.out hlt).mono ?_; rintro e W1 ⟨rfl, s', l', xv', zs', hit', hitf⟩; have HT' := hid hit'; have HF := hid hitf; clear hit' hitf; have hb19 : W1.heap[L.b19]? = some (.cells (xsA k) 89 (0, 0)) := (HF.out.block _ ho.h12 (by have := ho.h11; omega)).trans HX.out; obtain ⟨vo, hvo⟩ := xsA_get k k hlt; have cb : W1.cell? ⟨L.b19, k, none⟩ = some vo := (by simp [World.cell?, hb19, hvo]); have fb : W1.frozen? ⟨L.b19, k, none⟩ = false := (by simp [World.frozen?, hb19]); have HB := hid hb19; clear hb19 hvo)
      rw [HI.out, HM.out]
      refine ⟨⟨nth (Array.toList _), k + 1, s', l', xv', zs', congrArg (fun x => Act.mk x []) (frm_of _ ?_).symm, ⟨sl1.s1, sl1.s3, sl1.s7, sl1.s9, sl1.s11, sl1.s12, sl1.s13, rfl, sl1.s16, sl1.s17, rfl, rfl⟩, ?_, by omega, ?_, ?_, ?_, ?_⟩, ?_⟩
      · rfl
      · show Value.int _ _ = _
        go_num
      · refine HP.out.keep ho (fun b hb => ?_) (fun c hc => ?_)
        · have := ho.h11
          have := ho.h12
          rw [heap_setCell_ne _ (by omega)]
          exact HF.out.block b (by omega) (by omega)
        · have := ho.h11
          rw [World.cell?_setCell_other _ _ _ _ (by intro e; have := congrArg Addr.block e; simp at this; omega)]
          exact HF.out.cell c hc
      · have := ho.h11
        exact HT'.out.other ho.h12 (by omega) (by simp) (fun b hb => heap_setCell_ne _ hb)
      · rw [heap_setCell_at _ HB.out, xsA_set k hlt]
      · have := ho.h11
        have hst : w0.heap.size ≤ L.st := by have := ho.h0; have := ho.h1; have := ho.h2; have := ho.h3; have := ho.h4; have := ho.h5; have := ho.h6; have := ho.h7; have := ho.h8; have := ho.h9; have := ho.h10; omega
        have := ho.h12
        refine Old.setCell ?_ (by omega) _
        have ff := HF.out
        exact HO.out.trans ⟨ff.os, ff.output, ff.size, fun b hb => ff.block b (by omega) (by omega)⟩
      · simp [nth, intOf]
        omega
    · have : k = 4 := by omega
      subst this
      go_wp2_with fail
      refine leave HR _ (by rfl) ?_
      intro f' hf'
      exact HH.out f' w1 s l xv zs ⟨(hf' 1).trans sl1.s1, (hf' 3).trans sl1.s3, (hf' 7).trans sl1.s7, (hf' 9).trans sl1.s9, (hf' 11).trans sl1.s11, (hf' 12).trans sl1.s12, (hf' 13).trans sl1.s13, hf' 15, (hf' 16).trans sl1.s16, (hf' 17).trans sl1.s17, hf' 18, hf' 19⟩ hpre hit hx hold
end Go.Proofs.Ybulkedxc
