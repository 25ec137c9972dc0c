/-
  LawS6515BWhole: statement 37: a transaction that lives on.
-/
import Derived.Test.YbulkedxcX1
namespace Go.Proofs.Ybulkedxc
open Go.RowKit
attribute [local simp] setO_size setT_same
set_option linter.unusedSimpArgs false
set_option linter.unusedVariables false
set_option linter.unnecessarySimpa false

set_option maxRecDepth 100000 in
set_option maxHeartbeats 3200000 in
theorem piece117 (D : Inp) (V : Var) (A : Role → Nat) (S : Sys) (lx : List Int) (cv : Value) (cap xcap : Nat) (ib : Nat → Nat) (nv nv2 cy2 : Value) (ob k : Nat) (ev : Value) (w0 W w : World) (f : Nat → Value) (Q : Exit → Act → World → Prop) (hon : D.on ≤ 1024) (hk : k < D.on + 1) (ha : Aft D V A S lx cv xcap ib nv nv2 cy2 ob w0 W) (hb : Below W.heap.size W w) (hev : Ev D W.heap.size ev k w) (sl : SlB D V A cap nv nv2 cy2 ob k ev f) (he : ends D k = false) (hQ : ∀ a w, M9 D V A cap nv nv2 cy2 ob k W a w → Q (.exit 17) a w) :
    (fst_ (tail (down (fst_ (snd_ (down (down (snd_ (fst_ (tail (Yba.f3.body.getD .skip) 37)))))))) 4)).wp Yba.prog Q ⟨frm f, []⟩ w := by
  obtain ⟨M, hM⟩ : ∃ M, M = M9 D V A cap nv nv2 cy2 ob k W := ⟨_, rfl⟩
  rw [← hM] at hQ
  have HM := hid hM
  clear hM
  have hki : (k : Int) < (D.on : Int) + 1 := by omega
  have hkp : (0 : Int) ≤ (k : Int) := by omega
  have hon' : (D.on : Int) ≤ 1024 := by omega
  have ze : w.cell? ⟨V.en, k, none⟩ = some (.bool false) := by
    obtain ⟨cs, h1, _, h2, _⟩ := ha.arr.en
    rw [hb.cell (p := ⟨V.en, k, none⟩) (Array.getElem?_eq_some_iff.1 h1).1, cell_of h1, h2 k hk, he]
  have u2 : w.cell? ⟨A (.U k), 2, none⟩ = some .nilIface := by
    refine ha.uAt hb k hk 2 _ ?_
    show some (cond (S.en k) (errOf A k) .nilIface) = _
    rw [ha.en k hk, he]
    rfl
  have z110 : w.cell? ⟨A .st, 110, none⟩ = some (.map (some (A .live))) := ha.at_ hb .st 110 _ rfl
  have z112 : w.cell? ⟨A .st, 112, none⟩ = some (.map (some (A .wait))) := ha.at_ hb .st 112 _ rfl
  have hlk := ha.live_hit k hk he w hb
  have hlk' : ∀ m, (Instr.lookup 41 (.map (some (A .live))) (.int .i64 ((k : Int) + 1)) false).run Yba.prog (w.drewN m) = .ok (.pointer (some ⟨A (.U k), 0, none⟩)) (w.drewN m) := fun m => ha.live_hit k hk he _ (below_drewN hb m)
  have n1 := neq_nile
  have n2 := neq_96
  have n3 := neq_99
  have hnl : ((nlv D k : Nat) : Int) ≤ 1025 := by have := nlv_le D k; omega
  have hnw : ((nwt D k : Nat) : Int) ≤ 1025 := by have := nwt_le D k; omega
  have hnl0 : (0 : Int) ≤ ((nlv D k : Nat) : Int) := by omega
  have hnw0 : (0 : Int) ≤ ((nwt D k : Nat) : Int) := by omega
  have fin : ∀ (f' : Nat → Value) (m : Nat), (∀ i ∈ [1, 7, 11, 12, 13, 15, 16, 17, 18, 19, 22, 23, 24, 25, 26, 27, 34, 38, 39, 40, 53, 54], f' i = f i) → f' 51 = .int .i64 ((nlv D k : Nat) + 1) → f' 52 = .int .i64 (nwt D (k + 1) : Nat) → M ⟨frm f', []⟩ (w.drewN m) := by
    intro f' m hf h51 h52
    rw [HM.out]
    refine ⟨f', ev, rfl, sl.sl.of (fun i hi => hf i (by simp at hi ⊢; omega)), h51.trans ?_, h52, (hf 53 (by simp)).trans sl.s53, (hf 54 (by simp)).trans sl.s54, ?_, below_drewN hb m⟩
    · rw [nlv_succ, he]
      simp
    · have e : elog D (k + 1) = elog D k := by rw [elog_succ, he]; rfl
      unfold Ev
      rw [e]
      exact Ev.keep hev (fun b _ => rfl)
  have HFIN := hid fin
  have HS := hid sl
  have HQ := hid hQ
  conv => arg 2; whnf
  unfold frm
  rw [sl.sl.sl.s18, sl.sl.sl.s26, sl.s51, sl.s52, sl.s54, sl.s55, sl.s56, sl.s57]
  cases hw : (D.sp k).wait
  · have HA := hid ha
    clear ha hb hev sl fin hQ
    unfold ptr
    simp only [cond_false]
    go_wp2_with fail
    refine HQ.out _ _ ?_
    refine in_frm9 _ (by rfl) ?_
    intro f' hf'
    refine HFIN.out f' 0 (fun i hi => ?_) (hf' 51) ?_
    · simp at hi
      rcases hi with rfl | rfl | rfl | rfl | rfl | rfl | rfl | rfl | rfl | rfl | rfl | rfl | rfl | rfl | rfl | rfl | rfl | rfl | rfl | rfl | rfl | rfl <;> first | exact hf' _ | exact (hf' 18).trans HS.out.sl.sl.s18.symm | exact (hf' 26).trans HS.out.sl.sl.s26.symm | exact (hf' 54).trans HS.out.s54.symm
    · rw [nwt_succ, he, hw]
      exact (show f' 52 = .int .i64 ((nwt D k : Nat) : Int) from hf' 52)
  · have w5 : w.cell? ⟨A (.Wt k), 5, none⟩ = some (.int .i64 (((k : Int) + 1) * 10)) := ha.wAt hb k hk hw 5 _ rfl
    have w9 : w.cell? ⟨A (.Wt k), 9, none⟩ = some (.int .i64 7) := by
      refine ha.wAt hb k hk hw 9 _ ?_
      show some (Value.int .i64 (cond (S.an k) 0 7)) = _
      rw [ha.an k hk, he]
      rfl
    have w10 : w.cell? ⟨A (.Wt k), 10, none⟩ = some .nilIface := by
      refine ha.wAt hb k hk hw 10 _ ?_
      show some (cond (S.an k) (errOf A k) .nilIface) = _
      rw [ha.an k hk, he]
      rfl
    have u3 : w.cell? ⟨A (.U k), 3, none⟩ = some (.pointer (some ⟨A (.Wt k), 0, none⟩)) := by
      refine ha.uAt hb k hk 3 _ ?_
      show some (cond ((D.sp k).wait && !S.an k) (ptr (A (.Wt k))) (.pointer none)) = _
      rw [ha.an k hk, he, hw]
      rfl
    have hwl := ha.wait_hit k hk he hw w hb
    have hwl' : ∀ m, (Instr.lookup 41 (.map (some (A .wait))) (.int .i64 (((k : Int) + 1) * 10)) false).run Yba.prog (w.drewN m) = .ok (.pointer (some ⟨A (.U k), 0, none⟩)) (w.drewN m) := fun m => ha.wait_hit k hk he hw _ (below_drewN hb m)
    have HA := hid ha
    clear ha hb hev sl fin hQ
    unfold ptr
    simp only [cond_true]
    go_wp2_with fail
    go_quiet (fail)
    go_wp2_with fail
    refine HQ.out _ _ ?_
    refine in_frm9 _ (by rfl) ?_
    intro f' hf'
    refine HFIN.out f' nq (fun i hi => ?_) (hf' 51) ?_
    · simp at hi
      rcases hi with rfl | rfl | rfl | rfl | rfl | rfl | rfl | rfl | rfl | rfl | rfl | rfl | rfl | rfl | rfl | rfl | rfl | rfl | rfl | rfl | rfl | rfl <;> first | exact hf' _ | exact (hf' 18).trans HS.out.sl.sl.s18.symm | exact (hf' 26).trans HS.out.sl.sl.s26.symm | exact (hf' 54).trans HS.out.s54.symm
    · rw [nwt_succ, he, hw]
      refine (show f' 52 = .int .i64 (((nwt D k : Nat) : Int) + 1) from hf' 52).trans ?_
      show Value.int _ _ = Value.int _ ((nwt D k + 1 : Nat) : Int)
      simp
end Go.Proofs.Ybulkedxc
