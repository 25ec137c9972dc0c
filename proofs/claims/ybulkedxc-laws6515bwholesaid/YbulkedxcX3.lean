/-
  LawS6515BWhole: statement 37: the end of a round whose transaction has ended.
-/
import Derived.Test.YbulkedxcX1
namespace Go.Proofs.Ybulkedxc
open Go.RowKit
attribute [local simp] setO_size setT_same
set_option linter.unusedSimpArgs false
set_option linter.unusedVariables false
set_option linter.unnecessarySimpa false

theorem eq_ptr_nil (t : TypeId) (d : TypeId) (h : Yba.prog.underlying t = some (.pointer d)) (w : World) : (binOp .neq t (.pointer none) (.pointer none)).run Yba.prog w = .ok (.bool false) w := by
  simp [go_sem, h]
set_option maxRecDepth 100000 in
set_option maxHeartbeats 3200000 in
theorem piece150 (D : Inp) (V : Var) (A : Role → Nat) (S : Sys) (lx : List Int) (cv : Value) (cap xcap : Nat) (ib : Nat → Nat) (nv nv2 cy2 : Value) (ob k : Nat) (ev : Value) (w0 W w : World) (f : Nat → Value) (hon : D.on ≤ 1024) (hk : k < D.on + 1) (ha : Aft D V A S lx cv xcap ib nv nv2 cy2 ob w0 W) (hb : Below W.heap.size W w) (hev : Ev D W.heap.size ev k w) (sl : SlB D V A cap nv nv2 cy2 ob k ev f) (s60 : f 60 = ptr (A (.Ae k))) (he : ends D k = true) :
    (tail (down (fst_ (snd_ (down (down (snd_ (fst_ (tail (Yba.f3.body.getD .skip) 37)))))))) 9).wp Yba.prog (Exit.then (M9 D V A cap nv nv2 cy2 ob k W) fun _ _ _ => False) ⟨frm f, []⟩ w := by
  obtain ⟨M, hM⟩ : ∃ M, M = M9 D V A cap nv nv2 cy2 ob k W := ⟨_, rfl⟩
  rw [← hM]
  have HM := hid hM
  clear hM
  have hki : (k : Int) < (D.on : Int) + 1 := by omega
  have hkp : (0 : Int) ≤ (k : Int) := by omega
  have hon' : (D.on : Int) ≤ 1024 := by omega
  have z112 : w.cell? ⟨A .st, 112, none⟩ = some (.map (some (A .wait))) := ha.at_ hb .st 112 _ rfl
  have u3 : w.cell? ⟨A (.U k), 3, none⟩ = some (.pointer none) := by
    refine ha.uAt hb k hk 3 _ ?_
    show some (cond ((D.sp k).wait && !S.an k) (ptr (A (.Wt k))) (.pointer none)) = _
    rw [ha.an k hk, he]
    cases (D.sp k).wait <;> rfl
  obtain ⟨scs, hs1, hs2⟩ := ha.vars.sp
  have zp : w.cell? ⟨V.sp, k * 7 + 4, none⟩ = some (.bool (D.sp k).park) := by
    rw [hb.cell (p := ⟨V.sp, k * 7 + 4, none⟩) (Array.getElem?_eq_some_iff.1 hs1).1, cell_of hs1]
    exact hs2 k (by omega) 4 _ rfl
  have n1 := neq_err
  have n2 := eq_ptr_nil 99 116 Yba.underlying99
  have hel := elog_len D k
  have fin : ∀ (f' : Nat → Value) (w' : World) (ev' : Value), (∀ i ∈ [1, 7, 11, 12, 13, 15, 16, 17, 18, 19, 22, 23, 24, 25, 26, 27, 34, 38, 39, 40, 51, 52, 54], f' i = f i) → f' 53 = ev' → Ev D W.heap.size ev' (k + 1) w' → Below W.heap.size W w' → M ⟨frm f', []⟩ w' := by
    intro f' w' ev' hf h53 hev' hb'
    rw [HM.out]
    refine ⟨f', ev', rfl, sl.sl.of (fun i hi => hf i (by simp at hi ⊢; omega)), ((hf 51 (by simp)).trans sl.s51).trans ?_, ((hf 52 (by simp)).trans sl.s52).trans ?_, h53, (hf 54 (by simp)).trans sl.s54, hev', hb'⟩
    · rw [nlv_succ, he]; rfl
    · rw [nwt_succ, he]; rfl
  have same : ((D.sp k).wait && (D.sp k).park) = false → elog D (k + 1) = elog D k := fun e => by rw [elog_succ, he, e]; rfl
  have HFIN := hid fin
  have HSAME := hid same
  have HS := hid sl
  have HEV := hid hev
  have HB := hid hb
  clear same fin
  conv => arg 2; whnf
  unfold frm
  rw [sl.sl.sl.s18, sl.sl.sl.s23, sl.s53, sl.s54, sl.s55, sl.s56, sl.s57, s60]
  cases hw : (D.sp k).wait
  · clear ha hb hev sl s60
    unfold ptr
    simp only [cond_false]
    go_wp2_with fail
    refine in_frm9 _ (by rfl) ?_
    intro f' hf'
    refine HFIN.out f' w ev (fun i hi => ?_) (hf' 53) ?_ HB.out
    · simp at hi
      rcases hi with rfl | rfl | rfl | rfl | rfl | rfl | rfl | rfl | rfl | rfl | rfl | rfl | rfl | rfl | rfl | rfl | rfl | rfl | rfl | rfl | rfl | rfl | rfl <;> first | exact hf' _ | exact (hf' 18).trans HS.out.sl.sl.s18.symm | exact (hf' 23).trans HS.out.sl.sl.s23.symm | exact (hf' 54).trans HS.out.s54.symm
    · unfold Ev
      rw [HSAME.out (by rw [hw]; rfl)]
      exact HEV.out
  · have w5 : w.cell? ⟨A (.Wt k), 5, none⟩ = some (.int .i64 (((k : Int) + 1) * 10)) := ha.wAt hb k hk hw 5 _ rfl
    have w9 : w.cell? ⟨A (.Wt k), 9, none⟩ = some (.int .i64 0) := by
      refine ha.wAt hb k hk hw 9 _ ?_
      show some (Value.int .i64 (cond (S.an k) 0 7)) = _
      rw [ha.an k hk, he, hw]
      rfl
    have w10 : w.cell? ⟨A (.Wt k), 10, none⟩ = some (.iface 136 (.pointer (some ⟨A (.Ae k), 0, none⟩))) := by
      refine ha.wAt hb k hk hw 10 _ ?_
      show some (cond (S.an k) (errOf A k) .nilIface) = _
      rw [ha.an k hk, he, hw]
      rfl
    have hwl := ha.wait_miss k hk he w hb
    have hwl' : ∀ m, (Instr.lookup 41 (.map (some (A .wait))) (.int .i64 (((k : Int) + 1) * 10)) true).run Yba.prog (w.drewN m) = .ok (.tuple #[.pointer none, .bool false]) (w.drewN m) := fun m => ha.wait_miss k hk he _ (below_drewN hb m)
    have hmul : IntKind.i64.wrap (2 * ((k : Int) + 1)) = wrap64 (((k : Int) + 1) * 2) := by rw [IntKind.wrap_i64]; unfold wrap64; omega
    obtain ⟨i0, hi, hz0, hz1, hz2⟩ := info_parts info3
    clear ha hb hev sl s60
    unfold ptr
    simp only [cond_true]
    go_wp2_with fail
    go_quiet (fail)
    cases hpk : (D.sp k).park
    · rw [hpk] at zp
      go_wp2_with fail
      refine in_frm9 _ (by rfl) ?_
      intro f' hf'
      refine HFIN.out f' (w.drewN nq) ev (fun i hi => ?_) (hf' 53) ?_ (below_drewN HB.out nq)
      · simp at hi
        rcases hi with rfl | rfl | rfl | rfl | rfl | rfl | rfl | rfl | rfl | rfl | rfl | rfl | rfl | rfl | rfl | rfl | rfl | rfl | rfl | rfl | rfl | rfl | rfl <;> first | exact hf' _ | exact (hf' 18).trans HS.out.sl.sl.s18.symm | exact (hf' 23).trans HS.out.sl.sl.s23.symm | exact (hf' 54).trans HS.out.s54.symm
      · unfold Ev
        rw [HSAME.out (by rw [hw, hpk]; rfl)]
        exact Ev.keep HEV.out (fun _ _ => rfl)
    · rw [hpk] at zp
      go_wp2_with (at_builtin; refine stop_ ?_)
      refine Hid.in_ ?_
      have own2 : (w.drewN nq).ownsRow W.heap.size 3 1 ev (elog D k).length ((elog D k).map (Value.int .i64)) := Ev.keep HEV.out (fun _ _ => rfl)
      have hbs : W.heap.size ≤ w.heap.size := HB.out.size
      refine wpList_append_lies _ rfl _ _ _ rfl W.heap.size 3 i0 (.int .i64 0) 1 8 Yba.underlying25 hi hz0 hz1 hz2 rfl (by omega) ev _ _ rfl (own2.alloc _) ⟨_, 0, none⟩ 1 1 [.int .i64 (wrap64 (((k : Int) + 1) * 2))] rfl rfl (World.news_of_block (cs := #[.int .i64 (wrap64 (((k : Int) + 1) * 2))]) (t := 3) (fr := (0, 0)) ?_) (by simp [Value.oneCell']) (by omega) (by unfold maxLen; omega) (by omega) (by simp; omega) (w.heap.size + 1) (by simp) ?_
      · have := heap_alloc_new (w.drewN nq) (.cells #[.int .i64 (wrap64 (((k : Int) + 1) * 2))] 3)
        simpa using this
      intro g cap9 w9 hown9 hgr9 hat9 hlt9
      have hb9 : Below W.heap.size W w9 := by
        have hb := below_drewN HB.out nq
        have hob := row_lt HEV.out
        refine ⟨hgr9.os.trans hb.os, hgr9.tape.trans hb.tape, hgr9.output.trans hb.output, by have := hgr9.size; simp at this; omega, fun b hlb => ?_⟩
        rw [hgr9.block b (by simp; omega) (fun e => by have := hob b e.symm; omega)]
        rw [heap_alloc_old _ _ (by simp; omega)]
        exact hb.block b hlb
      have HB9 := hid hb9
      have HO9 := hid hown9
      clear hown9 hgr9 hat9 hb9 own2
      go_wp2_with fail
      refine in_frm9 _ (by rfl) ?_
      intro f' hf'
      refine HFIN.out f' w9 _ (fun i hi => ?_) (hf' 53) ?_ HB9.out
      · simp at hi
        rcases hi with rfl | rfl | rfl | rfl | rfl | rfl | rfl | rfl | rfl | rfl | rfl | rfl | rfl | rfl | rfl | rfl | rfl | rfl | rfl | rfl | rfl | rfl | rfl <;> first | exact hf' _ | exact (hf' 18).trans HS.out.sl.sl.s18.symm | exact (hf' 23).trans HS.out.sl.sl.s23.symm | exact (hf' 54).trans HS.out.s54.symm
      · unfold Ev
        rw [elog_succ, he, hw, hpk]
        show w9.ownsRow _ _ _ _ (elog D k ++ [wrap64 (((k : Int) + 1) * 2)]).length ((elog D k ++ [wrap64 (((k : Int) + 1) * 2)]).map (Value.int .i64))
        rw [List.map_append, List.length_append]
        exact HO9.out
end Go.Proofs.Ybulkedxc
