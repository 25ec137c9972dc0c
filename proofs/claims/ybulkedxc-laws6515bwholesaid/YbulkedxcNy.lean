/-
  LawS6515BWhole: the state with one transaction more.
-/
import Derived.Test.YbulkedxcNx
namespace Go.Proofs.Ybulkedxc
open Go.RowKit
attribute [local simp] setO_size setT_same
set_option linter.unusedSimpArgs false
set_option linter.unusedVariables false
set_option linter.unnecessarySimpa false

theorem liveL_sys0 (D : Inp) (n : Nat) (cv : Value) (xcap : Nat) : liveL (envOf D n cv xcap) (sys0 D) = List.range n := by
  unfold liveL
  simp [envOf, sys0]
theorem waitL_sys0 (D : Inp) (n : Nat) (cv : Value) (xcap : Nat) : waitL (envOf D n cv xcap) (sys0 D) = (List.range n).filter fun i => (D.sp i).wait := by
  unfold waitL
  simp [envOf, sys0]
theorem rank_succ (D : Inp) (n k : Nat) (cv : Value) (xcap : Nat) : rank (envOf D n cv xcap) (k + 1) = cond (D.sp k).wait (rank (envOf D n cv xcap) k + 1) (rank (envOf D n cv xcap) k) := by
  unfold rank
  rw [List.range_succ, List.filter_append]
  show (((List.range k).filter fun j => (D.sp j).wait) ++ [k].filter fun j => (D.sp j).wait).length = cond (D.sp k).wait (((List.range k).filter fun j => (D.sp j).wait).length + 1) ((List.range k).filter fun j => (D.sp j).wait).length
  cases hw : (D.sp k).wait <;> simp [hw]

set_option maxHeartbeats 1600000 in
theorem rep_next (D : Inp) (A : Role → Nat) (k u wt rm wm ch pn pl c1 c2 c3 B xcap : Nat) (cv cv' : Value) (W0 W : World) (hR : Rep A (envOf D k cv xcap) (sys0 D) [] B W0)
    (hx : NextAt D A W0.heap.size k u wt rm wm ch pn pl W) (ho : NextOrd D W0.heap.size k u wt rm wm ch pn pl c1 c2 c3) (hsz : W0.heap.size ≤ W.heap.size)
    (keep : ∀ r, dom (envOf D k cv xcap) (sys0 D) r → r ≠ .live → r ≠ .wait → r ≠ .sch → W.heap[A r]? = W0.heap[A r]?)
    (hs0 : W.cell? ⟨A .sch, 0, none⟩ = some cv') (hs1 : ∀ j, j ≠ 0 → W.cell? ⟨A .sch, j, none⟩ = W0.cell? ⟨A .sch, j, none⟩) (hsf : ∀ j, W.frozen? ⟨A .sch, j, none⟩ = W0.frozen? ⟨A .sch, j, none⟩)
    (hlive : W.heap[A .live]? = some (.map (((List.range k).map (liveE A)).toArray.push (ent ((k : Int) + 1) (ptr u) k)) (k + 1)))
    (hwait : W.heap[A .wait]? = some (cond (D.sp k).wait (.map ((((List.range k).filter fun i => (D.sp i).wait).map (waitE A (envOf D k cv xcap))).toArray.push (ent (((k : Int) + 1) * 10) (ptr u) (rank (envOf D k cv xcap) k))) (rank (envOf D k cv xcap) k + 1)) (.map (((List.range k).filter fun i => (D.sp i).wait).map (waitE A (envOf D k cv xcap))).toArray (rank (envOf D k cv xcap) k)))) :
    Rep (nextA A k u wt rm wm ch pn pl) (envOf D (k + 1) cv' xcap) (sys0 D) [] B W := by
  have hF := hR.rep
  have hcell : ∀ r q, dom (envOf D k cv xcap) (sys0 D) r → r ≠ .live → r ≠ .wait → r ≠ .sch → W.cell? ⟨A r, q, none⟩ = W0.cell? ⟨A r, q, none⟩ ∧ W.frozen? ⟨A r, q, none⟩ = W0.frozen? ⟨A r, q, none⟩ := by
    intro r q h1 h2 h3 h4
    have := keep r h1 h2 h3 h4
    exact ⟨by simp only [World.cell?, this], by simp only [World.frozen?, this]⟩
  have lt : ∀ b o, W.heap[b]? = some o → b < W.heap.size := fun b o e => (Array.getElem?_eq_some_iff.1 e).1
  have old : ∀ (r : Role) (i : Nat), i ≠ k → ∀ q, nextA A k u wt rm wm ch pn pl (Sum.inr (q, i)) = A (Sum.inr (q, i)) := by
    intro r i hi q
    match q with
    | 0 => exact if_neg hi
    | 1 => exact if_neg hi
    | 2 => exact if_neg hi
    | 3 => exact if_neg hi
    | 4 => exact if_neg hi
    | 5 => exact if_neg hi
    | 6 => exact if_neg hi
    | 7 => rfl
  -- an old role's cells
  have oldc : ∀ (r : Role) (q : Nat) (v : Value), nextA A k u wt rm wm ch pn pl r = A r → r ≠ .live → r ≠ .wait → r ≠ .sch → mem A (envOf D k cv xcap) (sys0 D) r q = some v → dom (envOf D (k + 1) cv' xcap) (sys0 D) r → dom (envOf D (k + 1) cv' xcap) (sys0 D) r ∧ W.cell? ⟨nextA A k u wt rm wm ch pn pl r, q, none⟩ = some v ∧ W.frozen? ⟨nextA A k u wt rm wm ch pn pl r, q, none⟩ = false := by
    intro r q v he h2 h3 h4 hm hd
    obtain ⟨d1, d2, d3⟩ := hF.cell r q v hm
    obtain ⟨e1, e2⟩ := hcell r q d1 h2 h3 h4
    rw [he]
    exact ⟨hd, e1.trans d2, e2.trans d3⟩
  obtain ⟨x8, x9, hux⟩ := hx.ux
  refine ⟨⟨?_, ?_, ?_, ?_⟩, Nat.le_trans hR.base hsz, ⟨rfl, Or.inl ⟨rfl, rfl⟩⟩, fun r _ => by simp [sys0, Value.ownBlock]⟩
  · intro r q v hm
    cases r using Role.split with
    | st => exact oldc .st q v rfl (by simp) (by simp) (by simp) hm trivial
    | sch =>
      refine ⟨trivial, ?_, ?_⟩
      · show W.cell? ⟨A .sch, q, none⟩ = some v
        rcases ite_some hm with ⟨rfl, rfl⟩ | ⟨h0, hm⟩
        · exact hs0
        rw [hs1 q h0]
        rcases ite_some hm with ⟨rfl, rfl⟩ | ⟨_, hm⟩
        · exact (hF.cell .sch 1 (.int .i64 0) rfl).2.1
        rcases ite_some hm with ⟨rfl, rfl⟩ | ⟨_, hm⟩
        · exact (hF.cell .sch 2 (.int .i64 0) rfl).2.1
        · cases hm
      · show W.frozen? ⟨A .sch, q, none⟩ = false
        rw [hsf]
        rcases ite_some hm with ⟨rfl, rfl⟩ | ⟨_, hm⟩
        · exact (hF.cell .sch 0 cv rfl).2.2
        rcases ite_some hm with ⟨rfl, rfl⟩ | ⟨_, hm⟩
        · exact (hF.cell .sch 1 (.int .i64 0) rfl).2.2
        rcases ite_some hm with ⟨rfl, rfl⟩ | ⟨_, hm⟩
        · exact (hF.cell .sch 2 (.int .i64 0) rfl).2.2
        · cases hm
    | vs => exact oldc .vs q v rfl (by simp) (by simp) (by simp) hm trivial
    | live => cases hm
    | wait => cases hm
    | slots => exact oldc .slots q v rfl (by simp) (by simp) (by simp) hm trivial
    | long => cases hm
    | xs => exact oldc .xs q v rfl (by simp) (by simp) (by simp) hm trivial
    | log => exact oldc .log q v rfl (by simp) (by simp) (by simp) hm trivial
    | kn => cases hm
    | U i =>
      have hi := ite_yes hm
      have hi' : i < k + 1 := hi
      by_cases e : i = k
      · subst e
        have hm : uC (nextA A i u wt rm wm ch pn pl) (envOf D (i + 1) cv' xcap) (sys0 D) i q = some v := (if_pos hi).symm.trans hm
        have hA : nextA A i u wt rm wm ch pn pl (.U i) = u := if_pos rfl
        have hW : nextA A i u wt rm wm ch pn pl (.Wt i) = wt := if_pos rfl
        have hRm : nextA A i u wt rm wm ch pn pl (.Rm i) = rm := if_pos rfl
        have hWm : nextA A i u wt rm wm ch pn pl (.Wm i) = wm := if_pos rfl
        have hPn : nextA A i u wt rm wm ch pn pl (.Pn i) = pn := if_pos rfl
        have hPl : nextA A i u wt rm wm ch pn pl (.Pl i) = pl := if_pos rfl
        refine ⟨hi', ?_, ?_⟩
        · rw [hA, cell_of hux]
          unfold uC at hm
          rw [hW, hRm, hWm, hPn, hPl] at hm
          rcases ite_some hm with ⟨rfl, rfl⟩ | ⟨_, hm⟩
          · rfl
          rcases ite_some hm with ⟨rfl, rfl⟩ | ⟨_, hm⟩
          · rfl
          rcases ite_some hm with ⟨rfl, rfl⟩ | ⟨_, hm⟩
          · rfl
          rcases ite_some hm with ⟨rfl, rfl⟩ | ⟨_, hm⟩
          · show some (cond (D.sp i).wait (ptr wt) (.pointer none)) = some (cond ((D.sp i).wait && !false) (ptr wt) (.pointer none))
            simp
          rcases ite_some hm with ⟨rfl, rfl⟩ | ⟨_, hm⟩
          · rfl
          rcases ite_some hm with ⟨rfl, rfl⟩ | ⟨_, hm⟩
          · rfl
          rcases ite_some hm with ⟨rfl, rfl⟩ | ⟨_, hm⟩
          · rfl
          rcases ite_some hm with ⟨rfl, rfl⟩ | ⟨_, hm⟩
          · rfl
          rcases ite_some hm with ⟨rfl, rfl⟩ | ⟨_, hm⟩
          · rfl
          · cases hm
        · rw [hA]; exact frozen_of hux q
      · have hlt : i < k := by omega
        refine oldc (.U i) q v (old (.U i) i e 0) (by simp) (by simp) (by simp) ?_ hi'
        have hm : uC (nextA A k u wt rm wm ch pn pl) (envOf D (k + 1) cv' xcap) (sys0 D) i q = some v := (if_pos hi).symm.trans hm
        rw [show mem A (envOf D k cv xcap) (sys0 D) (.U i) q = uC A (envOf D k cv xcap) (sys0 D) i q from if_pos hlt, ← hm]
        unfold uC
        rw [old (.U i) i e 1, old (.U i) i e 2, old (.U i) i e 3, old (.U i) i e 5, old (.U i) i e 6]
        rfl
    | Wt i =>
      have hi := ite_yes hm
      have hi' : i < k + 1 := hi.1
      have hwt : (D.sp i).wait = true := hi.2
      by_cases e : i = k
      · subst e
        have hm : wC (nextA A i u wt rm wm ch pn pl) (envOf D (i + 1) cv' xcap) (sys0 D) i q = some v := (if_pos hi).symm.trans hm
        have hA : nextA A i u wt rm wm ch pn pl (.Wt i) = wt := if_pos rfl
        have hC : nextA A i u wt rm wm ch pn pl (.Ch i) = ch := if_pos rfl
        obtain ⟨⟨x4, x7, hwx⟩, _⟩ := hx.wx hwt
        refine ⟨⟨hi', hwt⟩, ?_, ?_⟩
        · rw [hA, cell_of hwx]
          unfold wC at hm
          rw [hC] at hm
          rcases ite_some hm with ⟨rfl, rfl⟩ | ⟨_, hm⟩
          · rfl
          rcases ite_some hm with ⟨rfl, rfl⟩ | ⟨_, hm⟩
          · rfl
          rcases ite_some hm with ⟨rfl, rfl⟩ | ⟨_, hm⟩
          · rfl
          rcases ite_some hm with ⟨rfl, rfl⟩ | ⟨_, hm⟩
          · rfl
          rcases ite_some hm with ⟨rfl, rfl⟩ | ⟨_, hm⟩
          · rfl
          rcases ite_some hm with ⟨rfl, rfl⟩ | ⟨_, hm⟩
          · rfl
          rcases ite_some hm with ⟨rfl, rfl⟩ | ⟨_, hm⟩
          · rfl
          rcases ite_some hm with ⟨rfl, rfl⟩ | ⟨_, hm⟩
          · rfl
          rcases ite_some hm with ⟨rfl, rfl⟩ | ⟨_, hm⟩
          · rfl
          · cases hm
        · rw [hA]; exact frozen_of hwx q
      · have hlt : i < k := by omega
        refine oldc (.Wt i) q v (old (.Wt i) i e 1) (by simp) (by simp) (by simp) ?_ ⟨hi', hwt⟩
        have hm : wC (nextA A k u wt rm wm ch pn pl) (envOf D (k + 1) cv' xcap) (sys0 D) i q = some v := (if_pos hi).symm.trans hm
        have hp : i < (envOf D k cv xcap).n ∧ ((envOf D k cv xcap).sp i).wait = true := ⟨hlt, hwt⟩
        rw [show mem A (envOf D k cv xcap) (sys0 D) (.Wt i) q = wC A (envOf D k cv xcap) (sys0 D) i q from if_pos hp, ← hm]
        unfold wC
        rw [old (.U i) i e 4]
        rfl
    | Rm i => cases hm
    | Wm i => cases hm
    | Ch i => cases hm
    | Pn i =>
      have hi := ite_yes hm
      obtain ⟨hi', hpk, rfl⟩ := hi
      have hi' : i < k + 1 := hi'
      have hpk : (D.sp i).park = true := hpk
      have hv : v = .int .i64 ((i : Int) + 1) := (Option.some.inj ((if_pos ⟨hi', hpk, rfl⟩).symm.trans hm)).symm
      subst hv
      by_cases e : i = k
      · subst e
        have hA : nextA A i u wt rm wm ch pn pl (.Pn i) = pn := if_pos rfl
        refine ⟨⟨hi', hpk⟩, ?_, ?_⟩
        · rw [hA, cell_of (hx.px hpk).1]; rfl
        · rw [hA]; exact frozen_of (hx.px hpk).1 0
      · have hlt : i < k := by omega
        exact oldc (.Pn i) 0 _ (old (.Pn i) i e 5) (by simp) (by simp) (by simp) (if_pos ⟨hlt, hpk, rfl⟩) ⟨hi', hpk⟩
    | Pl i =>
      have hi := ite_yes hm
      obtain ⟨hi', hpk, rfl⟩ := hi
      have hi' : i < k + 1 := hi'
      have hpk : (D.sp i).park = true := hpk
      have hv : v = ptr (A .log) := (Option.some.inj ((if_pos ⟨hi', hpk, rfl⟩).symm.trans hm)).symm
      subst hv
      by_cases e : i = k
      · subst e
        have hA : nextA A i u wt rm wm ch pn pl (.Pl i) = pl := if_pos rfl
        refine ⟨⟨hi', hpk⟩, ?_, ?_⟩
        · rw [hA, cell_of (hx.px hpk).2]; rfl
        · rw [hA]; exact frozen_of (hx.px hpk).2 0
      · have hlt : i < k := by omega
        exact oldc (.Pl i) 0 _ (old (.Pl i) i e 6) (by simp) (by simp) (by simp) (if_pos ⟨hlt, hpk, rfl⟩) ⟨hi', hpk⟩
    | Ae i =>
      have hi := ite_yes hm
      have := (if_pos hi).symm.trans hm
      cases this
  · intro r x hx'
    cases r using Role.split with
    | st => cases hx'
    | sch => cases hx'
    | vs => cases hx'
    | live =>
      refine ⟨trivial, ?_⟩
      show W.heap[A .live]? = some x
      rw [← hx', hlive]
      show _ = some (Obj.map ((liveL (envOf D (k + 1) cv' xcap) (sys0 D)).map (liveE (nextA A k u wt rm wm ch pn pl))).toArray (k + 1))
      rw [liveL_sys0, List.range_succ, List.map_append]
      congr 2
      have e1 : (List.range k).map (liveE (nextA A k u wt rm wm ch pn pl)) = (List.range k).map (liveE A) := by
        apply List.map_congr_left
        intro i hi
        simp at hi
        unfold liveE
        rw [old (.U i) i (by omega) 0]
      rw [e1]
      have e2 : liveE (nextA A k u wt rm wm ch pn pl) k = ent ((k : Int) + 1) (ptr u) k := by
        unfold liveE
        rw [show nextA A k u wt rm wm ch pn pl (.U k) = u from if_pos rfl]
      simp [e2]
    | wait =>
      refine ⟨trivial, ?_⟩
      show W.heap[A .wait]? = some x
      rw [← hx', hwait]
      show _ = some (Obj.map ((waitL (envOf D (k + 1) cv' xcap) (sys0 D)).map (waitE (nextA A k u wt rm wm ch pn pl) (envOf D (k + 1) cv' xcap))).toArray (rank (envOf D (k + 1) cv' xcap) (k + 1)))
      rw [waitL_sys0, List.range_succ, List.filter_append, List.map_append, rank_succ]
      have e1 : ((List.range k).filter fun i => (D.sp i).wait).map (waitE (nextA A k u wt rm wm ch pn pl) (envOf D (k + 1) cv' xcap)) = ((List.range k).filter fun i => (D.sp i).wait).map (waitE A (envOf D k cv xcap)) := by
        apply List.map_congr_left
        intro i hi
        simp at hi
        unfold waitE
        rw [old (.U i) i (by omega) 0]
        rfl
      rw [e1]
      have e2 : waitE (nextA A k u wt rm wm ch pn pl) (envOf D (k + 1) cv' xcap) k = ent (((k : Int) + 1) * 10) (ptr u) (rank (envOf D k cv xcap) k) := by
        unfold waitE
        rw [show nextA A k u wt rm wm ch pn pl (.U k) = u from if_pos rfl]
        rfl
      have e3 : rank (envOf D (k + 1) cv' xcap) k = rank (envOf D k cv xcap) k := rfl
      cases hw : (D.sp k).wait
      · simp [hw, e3]
      · simp [hw, e2, e3]
    | slots => cases hx'
    | long => exact ⟨trivial, (keep .long trivial (by simp) (by simp) (by simp)).trans (hF.obj .long x hx').2⟩
    | xs => cases hx'
    | log => cases hx'
    | kn => cases hx'
    | U i => cases hx'
    | Wt i => cases hx'
    | Rm i =>
      have hc : i < (envOf D (k + 1) cv' xcap).n ∧ bitsOf ((envOf D (k + 1) cv' xcap).sp i).rd ≠ [] := by
        by_cases hp : i < (envOf D (k + 1) cv' xcap).n ∧ bitsOf ((envOf D (k + 1) cv' xcap).sp i).rd ≠ []
        · exact hp
        · have := (if_neg hp).symm.trans hx'; cases this
      have hv := (if_pos hc).symm.trans hx'
      cases hv
      have hi' : i < k + 1 := hc.1
      have hb : bitsOf (D.sp i).rd ≠ [] := hc.2
      refine ⟨hc, ?_⟩
      by_cases e : i = k
      · subst e
        rw [show nextA A i u wt rm wm ch pn pl (.Rm i) = rm from if_pos rfl]
        exact hx.rx hb
      · have hd : dom (envOf D k cv xcap) (sys0 D) (.Rm i) := ⟨(by show i < k; omega), hb⟩
        rw [old (.Rm i) i e 2, keep (.Rm i) hd (by simp) (by simp) (by simp)]
        exact (hF.obj (.Rm i) _ (if_pos hd)).2
    | Wm i =>
      have hc : i < (envOf D (k + 1) cv' xcap).n ∧ bitsOf ((envOf D (k + 1) cv' xcap).sp i).wr ≠ [] := by
        by_cases hp : i < (envOf D (k + 1) cv' xcap).n ∧ bitsOf ((envOf D (k + 1) cv' xcap).sp i).wr ≠ []
        · exact hp
        · have := (if_neg hp).symm.trans hx'; cases this
      have hv := (if_pos hc).symm.trans hx'
      cases hv
      have hi' : i < k + 1 := hc.1
      have hb : bitsOf (D.sp i).wr ≠ [] := hc.2
      refine ⟨hc, ?_⟩
      by_cases e : i = k
      · subst e
        rw [show nextA A i u wt rm wm ch pn pl (.Wm i) = wm from if_pos rfl]
        exact hx.wmx hb
      · have hd : dom (envOf D k cv xcap) (sys0 D) (.Wm i) := ⟨(by show i < k; omega), hb⟩
        rw [old (.Wm i) i e 3, keep (.Wm i) hd (by simp) (by simp) (by simp)]
        exact (hF.obj (.Wm i) _ (if_pos hd)).2
    | Ch i =>
      have hc : i < (envOf D (k + 1) cv' xcap).n ∧ ((envOf D (k + 1) cv' xcap).sp i).wait = true := by
        by_cases hp : i < (envOf D (k + 1) cv' xcap).n ∧ ((envOf D (k + 1) cv' xcap).sp i).wait = true
        · exact hp
        · have := (if_neg hp).symm.trans hx'; cases this
      have hv := (if_pos hc).symm.trans hx'
      cases hv
      have hi' : i < k + 1 := hc.1
      have hb : (D.sp i).wait = true := hc.2
      refine ⟨hc, ?_⟩
      by_cases e : i = k
      · subst e
        rw [show nextA A i u wt rm wm ch pn pl (.Ch i) = ch from if_pos rfl]
        exact (hx.wx hb).2
      · have hd : dom (envOf D k cv xcap) (sys0 D) (.Ch i) := ⟨(by show i < k; omega), hb⟩
        rw [old (.Ch i) i e 4, keep (.Ch i) hd (by simp) (by simp) (by simp)]
        exact (hF.obj (.Ch i) _ (if_pos hd)).2
    | Pn i => cases hx'
    | Pl i => cases hx'
    | Ae i => cases hx'
  · have hbase := hR.base
    intro r hr
    have fin : ∀ b o, W.heap[b]? = some o → W0.heap.size ≤ b → B ≤ b ∧ b < W.heap.size := fun b o e h => ⟨by omega, lt b o e⟩
    have oldd : dom (envOf D k cv xcap) (sys0 D) r → nextA A k u wt rm wm ch pn pl r = A r → B ≤ nextA A k u wt rm wm ch pn pl r ∧ nextA A k u wt rm wm ch pn pl r < W.heap.size := by
      intro hd he
      rw [he]
      have := hF.dom r hd
      exact ⟨this.1, by omega⟩
    have h1 := ho.h1
    have h2 := ho.h2
    have h3 := ho.h3
    have hu := ho.hu
    cases r using Role.split with
    | st => exact oldd trivial rfl
    | sch => exact oldd trivial rfl
    | vs => exact oldd trivial rfl
    | live => exact oldd trivial rfl
    | wait => exact oldd trivial rfl
    | slots => exact oldd trivial rfl
    | long => exact oldd trivial rfl
    | xs => exact oldd trivial rfl
    | log => exact oldd trivial rfl
    | kn => obtain ⟨q, hq⟩ := hr; exact absurd rfl hq
    | U i =>
      have hi : i < k + 1 := hr
      by_cases e : i = k
      · subst e
        rw [show nextA A i u wt rm wm ch pn pl (.U i) = u from if_pos rfl]
        exact fin u _ hux hu
      · exact oldd (show i < k by omega) (old (.U i) i e 0)
    | Wt i =>
      obtain ⟨hi, hb⟩ := hr
      have hi : i < k + 1 := hi
      have hb : (D.sp i).wait = true := hb
      by_cases e : i = k
      · subst e
        rw [show nextA A i u wt rm wm ch pn pl (.Wt i) = wt from if_pos rfl]
        obtain ⟨⟨x4, x7, hwx⟩, _⟩ := hx.wx hb
        exact fin wt _ hwx (by have := ho.hc hb; omega)
      · exact oldd ⟨show i < k by omega, hb⟩ (old (.U i) i e 1)
    | Rm i =>
      obtain ⟨hi, hb⟩ := hr
      have hi : i < k + 1 := hi
      by_cases e : i = k
      · subst e
        rw [show nextA A i u wt rm wm ch pn pl (.Rm i) = rm from if_pos rfl]
        exact fin rm _ (hx.rx hb) (by have := ho.hr hb; omega)
      · exact oldd ⟨show i < k by omega, hb⟩ (old (.U i) i e 2)
    | Wm i =>
      obtain ⟨hi, hb⟩ := hr
      have hi : i < k + 1 := hi
      by_cases e : i = k
      · subst e
        rw [show nextA A i u wt rm wm ch pn pl (.Wm i) = wm from if_pos rfl]
        exact fin wm _ (hx.wmx hb) (by have := ho.hw hb; omega)
      · exact oldd ⟨show i < k by omega, hb⟩ (old (.U i) i e 3)
    | Ch i =>
      obtain ⟨hi, hb⟩ := hr
      have hi : i < k + 1 := hi
      have hb : (D.sp i).wait = true := hb
      by_cases e : i = k
      · subst e
        rw [show nextA A i u wt rm wm ch pn pl (.Ch i) = ch from if_pos rfl]
        exact fin ch _ (hx.wx hb).2 (by have := ho.hc hb; omega)
      · exact oldd ⟨show i < k by omega, hb⟩ (old (.U i) i e 4)
    | Pn i =>
      obtain ⟨hi, hb⟩ := hr
      have hi : i < k + 1 := hi
      have hb : (D.sp i).park = true := hb
      by_cases e : i = k
      · subst e
        rw [show nextA A i u wt rm wm ch pn pl (.Pn i) = pn from if_pos rfl]
        exact fin pn _ (hx.px hb).1 (by have := ho.hp hb; omega)
      · exact oldd ⟨show i < k by omega, hb⟩ (old (.U i) i e 5)
    | Pl i =>
      obtain ⟨hi, hb⟩ := hr
      have hi : i < k + 1 := hi
      have hb : (D.sp i).park = true := hb
      by_cases e : i = k
      · subst e
        rw [show nextA A i u wt rm wm ch pn pl (.Pl i) = pl from if_pos rfl]
        exact fin pl _ (hx.px hb).2 (by have := ho.hp hb; omega)
      · exact oldd ⟨show i < k by omega, hb⟩ (old (.U i) i e 6)
    | Ae i => exact absurd hr.2 (by simp [sys0])
  · -- apart
    have cls : ∀ r, dom (envOf D (k + 1) cv' xcap) (sys0 D) r → (dom (envOf D k cv xcap) (sys0 D) r ∧ nextA A k u wt rm wm ch pn pl r = A r) ∨ ∃ q, r = Sum.inr (q, k) ∧ W0.heap.size ≤ nextA A k u wt rm wm ch pn pl r := by
      have h1 := ho.h1
      have h2 := ho.h2
      have h3 := ho.h3
      have hu := ho.hu
      intro r hr
      cases r using Role.split with
      | st => exact Or.inl ⟨trivial, rfl⟩
      | sch => exact Or.inl ⟨trivial, rfl⟩
      | vs => exact Or.inl ⟨trivial, rfl⟩
      | live => exact Or.inl ⟨trivial, rfl⟩
      | wait => exact Or.inl ⟨trivial, rfl⟩
      | slots => exact Or.inl ⟨trivial, rfl⟩
      | long => exact Or.inl ⟨trivial, rfl⟩
      | xs => exact Or.inl ⟨trivial, rfl⟩
      | log => exact Or.inl ⟨trivial, rfl⟩
      | kn => obtain ⟨q, hq⟩ := hr; exact absurd rfl hq
      | U i =>
        have hi : i < k + 1 := hr
        by_cases e : i = k
        · subst e; exact Or.inr ⟨0, rfl, by rw [show nextA A i u wt rm wm ch pn pl (.U i) = u from if_pos rfl]; exact hu⟩
        · exact Or.inl ⟨show i < k by omega, old (.U i) i e 0⟩
      | Wt i =>
        have hi : i < k + 1 := hr.1
        by_cases e : i = k
        · subst e; exact Or.inr ⟨1, rfl, by rw [show nextA A i u wt rm wm ch pn pl (.Wt i) = wt from if_pos rfl]; have := ho.hc hr.2; omega⟩
        · exact Or.inl ⟨⟨show i < k by omega, hr.2⟩, old (.U i) i e 1⟩
      | Rm i =>
        have hi : i < k + 1 := hr.1
        by_cases e : i = k
        · subst e; exact Or.inr ⟨2, rfl, by rw [show nextA A i u wt rm wm ch pn pl (.Rm i) = rm from if_pos rfl]; have := ho.hr hr.2; omega⟩
        · exact Or.inl ⟨⟨show i < k by omega, hr.2⟩, old (.U i) i e 2⟩
      | Wm i =>
        have hi : i < k + 1 := hr.1
        by_cases e : i = k
        · subst e; exact Or.inr ⟨3, rfl, by rw [show nextA A i u wt rm wm ch pn pl (.Wm i) = wm from if_pos rfl]; have := ho.hw hr.2; omega⟩
        · exact Or.inl ⟨⟨show i < k by omega, hr.2⟩, old (.U i) i e 3⟩
      | Ch i =>
        have hi : i < k + 1 := hr.1
        by_cases e : i = k
        · subst e; exact Or.inr ⟨4, rfl, by rw [show nextA A i u wt rm wm ch pn pl (.Ch i) = ch from if_pos rfl]; have := ho.hc hr.2; omega⟩
        · exact Or.inl ⟨⟨show i < k by omega, hr.2⟩, old (.U i) i e 4⟩
      | Pn i =>
        have hi : i < k + 1 := hr.1
        by_cases e : i = k
        · subst e; exact Or.inr ⟨5, rfl, by rw [show nextA A i u wt rm wm ch pn pl (.Pn i) = pn from if_pos rfl]; have := ho.hp hr.2; omega⟩
        · exact Or.inl ⟨⟨show i < k by omega, hr.2⟩, old (.U i) i e 5⟩
      | Pl i =>
        have hi : i < k + 1 := hr.1
        by_cases e : i = k
        · subst e; exact Or.inr ⟨6, rfl, by rw [show nextA A i u wt rm wm ch pn pl (.Pl i) = pl from if_pos rfl]; have := ho.hp hr.2; omega⟩
        · exact Or.inl ⟨⟨show i < k by omega, hr.2⟩, old (.U i) i e 6⟩
      | Ae i => exact absurd hr.2 (by simp [sys0])
    intro r r' hr hr' e
    rcases cls r hr with ⟨d, ea⟩ | ⟨q, rfl, ge⟩ <;> rcases cls r' hr' with ⟨d', ea'⟩ | ⟨q', rfl, ge'⟩
    · rw [ea, ea'] at e
      exact hF.inj r r' d d' e
    · have := (hF.dom r d).2
      rw [ea] at e
      omega
    · have := (hF.dom r' d').2
      rw [ea'] at e
      omega
    · rw [next_inj D A W0.heap.size k u wt rm wm ch pn pl c1 c2 c3 (k + 1) cv' xcap ho q q' hr hr' e]
end Go.Proofs.Ybulkedxc
