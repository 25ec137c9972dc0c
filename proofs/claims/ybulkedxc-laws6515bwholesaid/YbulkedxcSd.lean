/-
  LawS6515BWhole: statement 17: the end of a round.
-/
import Derived.Test.YbulkedxcSb
namespace Go.Proofs.Ybulkedxc
open Go.RowKit
attribute [local simp] setO_size setT_same
set_option linter.unusedSimpArgs false
set_option linter.unusedVariables false
set_option linter.unnecessarySimpa false

theorem in_frm {M : Act → World → Prop} {w : World} (fr : Array Value) (h : fr.size = 860) (k : ∀ f : Nat → Value, (∀ i, f i = nth fr.toList i) → M ⟨frm f, []⟩ w) : M ⟨fr, []⟩ w := by
  have := k (nth fr.toList) (fun _ => rfl)
  rw [frm_of fr h] at this
  exact this
theorem next_cls (D : Inp) (A : Role → Nat) (H k u wt rm wm ch pn pl c1 c2 c3 Z xcap : Nat) (cv cv' : Value) (ho : NextOrd D H k u wt rm wm ch pn pl c1 c2 c3) (hZ : c3 ≤ Z) (hZw : (D.sp k).wait = true → wt < Z) :
    ∀ r, dom (envOf D (k + 1) cv' xcap) (sys0 D) r → (dom (envOf D k cv xcap) (sys0 D) r ∧ nextA A k u wt rm wm ch pn pl r = A r) ∨ (H ≤ nextA A k u wt rm wm ch pn pl r ∧ nextA A k u wt rm wm ch pn pl r < Z) := by
  have h1 := ho.h1
  have h2 := ho.h2
  have h3 := ho.h3
  have hu := ho.hu
  intro r hr
  cases r using Role.split with
  | st => exact Or.inl ⟨trivial, rfl⟩
  | sch => exact Or.inl ⟨trivial, rfl⟩
  | vs => exact Or.inl ⟨trivial, rfl⟩
  | live => exact Or.inl ⟨trivial, rfl⟩
  | wait => exact Or.inl ⟨trivial, rfl⟩
  | slots => exact Or.inl ⟨trivial, rfl⟩
  | long => exact Or.inl ⟨trivial, rfl⟩
  | xs => exact Or.inl ⟨trivial, rfl⟩
  | log => exact Or.inl ⟨trivial, rfl⟩
  | kn => obtain ⟨q, hq⟩ := hr; exact absurd rfl hq
  | U i =>
    have hi : i < k + 1 := hr
    by_cases e : i = k
    · subst e; exact Or.inr (by rw [show nextA A i u wt rm wm ch pn pl (.U i) = u from if_pos rfl]; omega)
    · exact Or.inl ⟨show i < k by omega, if_neg e⟩
  | Wt i =>
    have hi : i < k + 1 := hr.1
    by_cases e : i = k
    · subst e; exact Or.inr (by rw [show nextA A i u wt rm wm ch pn pl (.Wt i) = wt from if_pos rfl]; have := ho.hc hr.2; have := hZw hr.2; omega)
    · exact Or.inl ⟨⟨show i < k by omega, hr.2⟩, if_neg e⟩
  | Rm i =>
    have hi : i < k + 1 := hr.1
    by_cases e : i = k
    · subst e; exact Or.inr (by rw [show nextA A i u wt rm wm ch pn pl (.Rm i) = rm from if_pos rfl]; have := ho.hr hr.2; omega)
    · exact Or.inl ⟨⟨show i < k by omega, hr.2⟩, if_neg e⟩
  | Wm i =>
    have hi : i < k + 1 := hr.1
    by_cases e : i = k
    · subst e; exact Or.inr (by rw [show nextA A i u wt rm wm ch pn pl (.Wm i) = wm from if_pos rfl]; have := ho.hw hr.2; omega)
    · exact Or.inl ⟨⟨show i < k by omega, hr.2⟩, if_neg e⟩
  | Ch i =>
    have hi : i < k + 1 := hr.1
    by_cases e : i = k
    · subst e; exact Or.inr (by rw [show nextA A i u wt rm wm ch pn pl (.Ch i) = ch from if_pos rfl]; have := ho.hc hr.2; have := hZw hr.2; omega)
    · exact Or.inl ⟨⟨show i < k by omega, hr.2⟩, if_neg e⟩
  | Pn i =>
    have hi : i < k + 1 := hr.1
    by_cases e : i = k
    · subst e; exact Or.inr (by rw [show nextA A i u wt rm wm ch pn pl (.Pn i) = pn from if_pos rfl]; have := ho.hp hr.2; omega)
    · exact Or.inl ⟨⟨show i < k by omega, hr.2⟩, if_neg e⟩
  | Pl i =>
    have hi : i < k + 1 := hr.1
    by_cases e : i = k
    · subst e; exact Or.inr (by rw [show nextA A i u wt rm wm ch pn pl (.Pl i) = pl from if_pos rfl]; have := ho.hp hr.2; omega)
    · exact Or.inl ⟨⟨show i < k by omega, hr.2⟩, if_neg e⟩
  | Ae i => exact absurd hr.2 (by simp [sys0])

theorem vall_lt {D : Inp} {V : Var} {A : Role → Nat} {k : Nat} {w : World} (hv : Vars D V w) (ha : Arr D V A k w) : ∀ b ∈ V.all, b < w.heap.size := by
  have lt : ∀ b o, w.heap[b]? = some o → b < w.heap.size := fun b o e => (Array.getElem?_eq_some_iff.1 e).1
  obtain ⟨s1, s2, _⟩ := hv.sp
  obtain ⟨t1, t2, _⟩ := ha.tx
  obtain ⟨u1, u2, _⟩ := ha.wt
  obtain ⟨v1, v2, _⟩ := ha.en
  intro b hb
  simp only [Var.all, List.mem_cons, List.not_mem_nil, or_false] at hb
  rcases hb with rfl | rfl | rfl | rfl | rfl | rfl | rfl | rfl | rfl | rfl
  · exact lt _ _ hv.e7
  · exact lt _ _ hv.b11
  · exact lt _ _ hv.b12
  · exact lt _ _ hv.b13
  · exact lt _ _ hv.b15
  · exact lt _ _ hv.b19
  · exact lt _ _ s2
  · exact lt _ _ t2
  · exact lt _ _ u2
  · exact lt _ _ v2

theorem clOf_yes (D : Inp) (k : Nat) (h0 : k ≠ 0) (h : (D.sp k).casc = true) : clOf D (k + 1) = clOf D k ++ [k] := by
  unfold clOf
  rw [List.range_succ, List.filter_append]
  congr 1
  simp [h0, h]
theorem clOf_no (D : Inp) (k : Nat) (h : k = 0 ∨ (D.sp k).casc = false) : clOf D (k + 1) = clOf D k := by
  unfold clOf
  rw [List.range_succ, List.filter_append]
  rcases h with h | h <;> simp [h]
theorem clOf_len (D : Inp) (k : Nat) : (clOf D k).length ≤ k := by
  unfold clOf
  exact Nat.le_trans (List.length_filter_le _ _) (by simp)
/-- the state ahead of the next round -/
theorem round_end (D : Inp) (V : Var) (A : Role → Nat) (xcap k : Nat) (cv cv' : Value) (w0 w1 W5 W : World) (c1 c2 c3 rm wm pn pl wt ch : Nat) (hlt : k < D.on + 1) (hrd : Rd D V A cv xcap k w0 w1) (hRa : Ra D A w1.heap.size k c1 c2 c3 (D.sp k).wait (D.sp k).park wt rm wm ch pn pl W5) (hRb : Rb D V A k cv xcap wt w1 W5)
    (hos : W.os = W5.os) (hou : W.output = W5.output) (hsz : W5.heap.size ≤ W.heap.size)
    (keep : ∀ b, b < W5.heap.size → b ≠ V.en → b ≠ V.tx → b ≠ A .sch → b ≠ A .live → cv.ownBlock ≠ some b → W.heap[b]? = W5.heap[b]?)
    (htx : ∃ cs, W.heap[V.tx]? = some (.cells cs 96 (0, 0)) ∧ cs.size = D.on + 1 ∧ (∀ i, i < k → cs[i]? = some (ptr (A (.U i)))) ∧ cs[k]? = some (ptr (w1.heap.size + 1)))
    (hen : ∃ cs, W.heap[V.en]? = some (.cells cs 4 (0, 0)) ∧ cs.size = D.on + 1 ∧ (∀ i, i < k + 1 → cs[i]? = some (.bool (ends D i))) ∧ ∀ i, k + 1 ≤ i → i < D.on + 1 → cs[i]? = some (.bool false))
    (hlive : W.heap[A .live]? = some (.map (((List.range k).map (liveE A)).toArray.push (ent ((k : Int) + 1) (ptr (w1.heap.size + 1)) k)) (k + 1)))
    (hs0 : W.cell? ⟨A .sch, 0, none⟩ = some cv') (hs1 : ∀ j, j ≠ 0 → W.cell? ⟨A .sch, j, none⟩ = W5.cell? ⟨A .sch, j, none⟩) (hsf : ∀ j, W.frozen? ⟨A .sch, j, none⟩ = W5.frozen? ⟨A .sch, j, none⟩)
    (hown : W.ownsRow w0.heap.size 3 1 cv' (clOf D (k + 1)).length ((clOf D (k + 1)).map fun i : Nat => Value.int .i64 ((i : Int) + 1))) (hcv : ∀ b, cv'.ownBlock = some b → cv.ownBlock = some b ∨ W5.heap.size ≤ b) :
    Rd D V (nextA A k (w1.heap.size + 1) wt rm wm ch pn pl) cv' xcap (k + 1) w0 W := by
  have hF := hrd.rep.rep
  have hvl := vall_lt hrd.vars hrd.arr
  have hcl : ∀ b, cv.ownBlock = some b → w0.heap.size ≤ b ∧ b < w1.heap.size := row_lt hrd.cv.own
  have q1 := hRa.h1
  have q2 := hRa.h2
  have q3 := hRa.h3
  have q4 := hRa.h4
  have hH : w1.heap.size ≤ W5.heap.size := by omega
  have nev : ∀ r, dom (envOf D k cv xcap) (sys0 D) r → ∀ b ∈ V.all, b ≠ A r := fun r hr b hb e => hrd.apart.role r hr (by rw [← e]; exact hb)
  have men : V.en ∈ V.all := by simp [Var.all]
  have mtx : V.tx ∈ V.all := by simp [Var.all]
  have mwt : V.wt ∈ V.all := by simp [Var.all]
  -- new blocks
  have knew : ∀ b, w1.heap.size ≤ b → b < W5.heap.size → W.heap[b]? = W5.heap[b]? := by
    intro b h1 h2
    have e1 := hvl _ men
    have e2 := hvl _ mtx
    have e3 := (hF.dom .sch trivial).2
    have e4 := (hF.dom .live trivial).2
    exact keep b h2 (by omega) (by omega) (by omega) (by omega) (fun e => by have := hcl b e; omega)
  have kvar : ∀ b ∈ V.all, b ≠ V.tx → b ≠ V.wt → b ≠ V.en → W.heap[b]? = w1.heap[b]? := by
    intro b hb h1 h2 h3
    have := hvl b hb
    rw [keep b (by omega) h3 h1 (nev .sch trivial b hb) (nev .live trivial b hb) (fun e => hrd.cv.var b e hb)]
    exact hRb.keep b this (nev .wait trivial b hb) h2
  have krole : ∀ r, dom (envOf D k cv xcap) (sys0 D) r → r ≠ .live → r ≠ .wait → r ≠ .sch → W.heap[A r]? = w1.heap[A r]? := by
    intro r hr h1 h2 h3
    have := (hF.dom r hr).2
    rw [keep (A r) (by omega) (fun e => nev r hr _ men e.symm) (fun e => nev r hr _ mtx e.symm) (fun e => h3 (hF.inj r .sch hr trivial e)) (fun e => h1 (hF.inj r .live hr trivial e)) (fun e => hrd.cv.role _ e r hr rfl)]
    exact hRb.keep _ this (fun e => h2 (hF.inj r .wait hr trivial e)) (fun e => nev r hr _ mwt e.symm)
  have ksch : W5.heap[A .sch]? = w1.heap[A .sch]? := hRb.keep _ (hF.dom .sch trivial).2 (fun e => absurd (hF.inj .sch .wait trivial trivial e) (by simp)) (fun e => nev .sch trivial _ mwt e.symm)
  have lt5 : ∀ b o, W5.heap[b]? = some o → b < W5.heap.size := fun b o e => (Array.getElem?_eq_some_iff.1 e).1
  have hord : NextOrd D w1.heap.size k (w1.heap.size + 1) wt rm wm ch pn pl c1 c2 c3 := ⟨by omega, hRa.h1, hRa.h2, hRa.h3, hRa.hr, hRa.hw, hRa.hp, hRa.hc⟩
  have hwtl : (D.sp k).wait = true → wt < W5.heap.size := fun e => by
    obtain ⟨⟨x4, x7, h⟩, _⟩ := hRa.wx e
    exact lt5 _ _ h
  have cls := next_cls D A w1.heap.size k (w1.heap.size + 1) wt rm wm ch pn pl c1 c2 c3 W5.heap.size xcap cv cv' hord q4 hwtl
  refine ⟨hrd.vars.keep (fun b hb h1 h2 h3 => kvar b hb h1 h2 h3) hrd.apart.nodup, ?_, ?_, ?_, ?_, ?_⟩
  · obtain ⟨c, x1, x2, x3, x4⟩ := htx
    obtain ⟨c', y1, y2, y3, y4, y5⟩ := hRb.arr
    refine ⟨⟨c, x1, x2, fun i hi => ?_⟩, ⟨c', ?_, y2, fun i hi => ?_, y5⟩, hen⟩
    · by_cases e : i = k
      · subst e
        rw [show nextA A i (w1.heap.size + 1) wt rm wm ch pn pl (.U i) = w1.heap.size + 1 from if_pos rfl]
        exact x4
      · rw [show nextA A k (w1.heap.size + 1) wt rm wm ch pn pl (.U i) = A (.U i) from if_neg e]
        exact x3 i (by omega)
    · have hnd := hrd.apart.nodup
      simp only [Var.all, List.nodup_cons, List.mem_cons, List.not_mem_nil, not_or, or_false, not_false_eq_true, and_true] at hnd
      have htw : V.tx ≠ V.wt := hnd.2.2.2.2.2.2.2.1.1
      have hwe : V.wt ≠ V.en := hnd.2.2.2.2.2.2.2.2.1
      have := hvl _ mwt
      rw [keep V.wt (by omega) hwe (Ne.symm htw) (nev .sch trivial _ mwt) (nev .live trivial _ mwt) (fun e => hrd.cv.var _ e mwt)]
      exact y1
    · by_cases e : i = k
      · subst e
        rw [show nextA A i (w1.heap.size + 1) wt rm wm ch pn pl (.Wt i) = wt from if_pos rfl]
        exact y4
      · rw [show nextA A k (w1.heap.size + 1) wt rm wm ch pn pl (.Wt i) = A (.Wt i) from if_neg e]
        exact y3 i (by omega)
  · refine rep_next D A k (w1.heap.size + 1) wt rm wm ch pn pl c1 c2 c3 w0.heap.size xcap cv cv' w1 W hrd.rep ?_ hord (by omega) krole hs0 (fun j hj => ?_) (fun j => ?_) hlive ?_
    · refine ⟨⟨_, _, (knew _ (by omega) (by omega)).trans hRa.ux⟩, fun e => ?_, fun e => ?_, fun e => ?_, fun e => ?_⟩
      · obtain ⟨⟨x4, x7, h⟩, h'⟩ := hRa.wx e
        have := hRa.hc e
        exact ⟨⟨x4, x7, (knew _ (by omega) (lt5 _ _ h)).trans h⟩, (knew _ (by omega) (lt5 _ _ h')).trans h'⟩
      · have := hRa.hr e
        exact (knew _ (by omega) (by omega)).trans (hRa.rx e)
      · have := hRa.hw e
        exact (knew _ (by omega) (by omega)).trans (hRa.wmx e)
      · have := hRa.hp e
        exact ⟨(knew _ (by omega) (by omega)).trans (hRa.px e).1, (knew _ (by omega) (by omega)).trans (hRa.px e).2⟩
    · rw [hs1 j hj]
      simp only [World.cell?, ksch]
    · rw [hsf j]
      simp only [World.frozen?, ksch]
    · have := (hF.dom .wait trivial).2
      rw [keep (A .wait) (by omega) (fun e => nev .wait trivial _ men e.symm) (fun e => nev .wait trivial _ mtx e.symm) (fun e => absurd (hF.inj .wait .sch trivial trivial e) (by simp)) (fun e => absurd (hF.inj .wait .live trivial trivial e) (by simp)) (fun e => hrd.cv.role _ e .wait trivial rfl)]
      exact hRb.wait
  · refine ⟨hrd.apart.nodup, hrd.apart.base, fun r hr hm => ?_⟩
    rcases cls r hr with ⟨d, e⟩ | ⟨g, _⟩
    · rw [e] at hm
      exact hrd.apart.role r d hm
    · have := hvl _ hm
      omega
  · refine ⟨hown, fun b hb hm => ?_, fun b hb r hr e => ?_⟩
    · rcases hcv b hb with h | h
      · exact hrd.cv.var b h hm
      · have := hvl b hm
        omega
    · rcases cls r hr with ⟨d, e'⟩ | ⟨g1, g2⟩
      · rw [e'] at e
        rcases hcv b hb with h | h
        · exact hrd.cv.role b h r d e
        · have := (hF.dom r d).2
          omega
      · rcases hcv b hb with h | h
        · have := hcl b h
          omega
        · omega
  · refine hrd.old.trans ⟨hos.trans hRb.os, hou.trans hRb.output, by omega, fun b hb => ?_⟩
    have e1 := hrd.apart.base _ men
    have e2 := hrd.apart.base _ mtx
    have e3 := hrd.apart.base _ mwt
    have e4 := (hF.dom .sch trivial).1
    have e5 := (hF.dom .live trivial).1
    have e6 := (hF.dom .wait trivial).1
    have e7 := hrd.rep.base
    rw [keep b (by omega) (by omega) (by omega) (by omega) (by omega) (fun e => by have := hcl b e; omega)]
    exact hRb.keep b (by omega) (by omega) (by omega)

set_option maxRecDepth 100000 in
set_option maxHeartbeats 3200000 in
theorem piece43 (D : Inp) (V : Var) (A : Role → Nat) (cap xcap k : Nat) (cv : Value) (w0 w1 : World) (c1 c2 rm wm pn pl : Nat) (hon : D.on ≤ 1024) (hlt : k < D.on + 1) (hrd : Rd D V A cv xcap k w0 w1) (a : Act) (W5 : World) (hM5 : M3 D V A cap k cv xcap w1 c1 c2 rm wm pn pl a W5) :
    (tail (down (fst_ (snd_ (down (down (snd_ (fst_ (tail (Yba.f3.body.getD .skip) 17)))))))) 7).wp Yba.prog (Exit.then (M4 D V cap xcap k w0) fun _ _ _ => False) a W5 := by
  obtain ⟨f5, c3, wt, ch, rfl, slr, hRa, hRb⟩ := hM5
  obtain ⟨M, hM⟩ : ∃ M, M = M4 D V cap xcap k w0 := ⟨_, rfl⟩
  rw [← hM]
  have HM := hid hM
  clear hM
  show (Code.seq _ (Code.seq _ _)).wp Yba.prog _ _ _
  have sl5 := slr.sl
  unfold frm
  rw [slr.s27, slr.s28, slr.s29, slr.s30, slr.s31, sl5.s15, sl5.s16, sl5.s18, sl5.s22, sl5.s23, sl5.s24, sl5.s25, sl5.s26]
  unfold ptr
  have hki : (k : Int) < (D.on : Int) + 1 := by omega
  have hkp : (0 : Int) ≤ (k : Int) := by omega
  have hst := hrd.rep.rep.dom .st trivial
  have hld := hrd.rep.rep.dom .live trivial
  have hsd := hrd.rep.rep.dom .sch trivial
  have ne_wait : ∀ r, dom (envOf D k cv xcap) (sys0 D) r → r ≠ .wait → A r ≠ A .wait := fun r hr hne e => hne (hrd.rep.rep.inj r .wait hr trivial e)
  have ne_var : ∀ r, dom (envOf D k cv xcap) (sys0 D) r → ∀ b ∈ V.all, A r ≠ b := fun r hr b hb e => hrd.apart.role r hr (by rw [e]; exact hb)
  have hkeep : ∀ r, dom (envOf D k cv xcap) (sys0 D) r → r ≠ .wait → W5.heap[A r]? = w1.heap[A r]? := fun r hr hne => hRb.keep _ (hrd.rep.rep.dom r hr).2 (ne_wait r hr hne) (ne_var r hr _ (by simp [Var.all]))
  have z110 : W5.cell? ⟨A .st, 110, none⟩ = some (.map (some (A .live))) := by
    have := (hrd.rep.rep.cell .st 110 (.map (some (A .live))) rfl).2.1
    rw [← this]
    simp only [World.cell?, hkeep .st trivial (by simp)]
  have hlo : W5.heap[A .live]? = some (.map ((List.range k).map (liveE A)).toArray k) := (hkeep .live trivial (by simp)).trans (live_obj hrd.rep)
  have hfind : Instr.findNow (.int .i64) (.int .i64 ((k : Int) + 1)) (((List.range k).map (liveE A)).toArray).toList 0 = some none := by
    refine findNow_none _ _ _ ?_
    intro e he
    simp at he
    obtain ⟨i, hi, rfl⟩ := he
    exact ⟨_, _, _, rfl, by omega⟩
  have hup := run_update_new (P := Yba.prog) W5 (t := 41) (d := .int .i64) Yba.underlying41 Yba.underlying3 hlo (key := .int .i64 ((k : Int) + 1)) (v := .pointer (some ⟨w1.heap.size + 1, 0, none⟩)) rfl hfind
  generalize hes : ((List.range k).map (liveE A)).toArray = es at *
  obtain ⟨W6, hW6⟩ : ∃ z, z = setO W5 (A .live) (.map (es.push { key := .int .i64 ((k : Int) + 1), val := .pointer (some ⟨w1.heap.size + 1, 0, none⟩), born := k }) (k + 1)) := ⟨_, rfl⟩
  rw [← hW6] at hup
  obtain ⟨cs, ht1, ht2, ht3⟩ := hrd.arr.tx
  have htl : V.tx < w1.heap.size := (Array.getElem?_eq_some_iff.1 ht1).1
  have hnd := hrd.apart.nodup
  simp only [Var.all, List.nodup_cons, List.mem_cons, List.not_mem_nil, not_or, or_false, not_false_eq_true, and_true] at hnd
  have htw : V.tx ≠ V.wt := hnd.2.2.2.2.2.2.2.1.1
  have hte : V.tx ≠ V.en := hnd.2.2.2.2.2.2.2.1.2
  have hwe : V.wt ≠ V.en := hnd.2.2.2.2.2.2.2.2.1
  have htx5 : W5.heap[V.tx]? = some (.cells cs 96 (0, 0)) := (hRb.keep _ htl (fun e => ne_var .wait trivial _ (by simp [Var.all]) e.symm) htw).trans ht1
  have htx6 : W6.heap[V.tx]? = some (.cells cs 96 (0, 0)) := by
    rw [hW6, setO_other _ _ _ _ (fun e => ne_var .live trivial _ (by simp [Var.all]) e.symm)]
    exact htx5
  obtain ⟨vk, hvk⟩ : ∃ v, cs[k]? = some v := ⟨_, Array.getElem?_eq_getElem (by omega)⟩
  have zk : W6.cell? ⟨V.tx, k, none⟩ = some vk := (cell_of htx6 k).trans hvk
  have fk : W6.frozen? ⟨V.tx, k, none⟩ = false := frozen_of htx6 k
  have HES := hid hes
  have HW6 := hid hW6
  have HTX := hid htx6
  have HKP := hid hkeep
  have HNW := hid ne_wait
  have HNV := hid ne_var
  have HLO := hid hlo
  have HRD := hid hrd
  have HRA := hid hRa
  have HRB := hid hRb
  have HT3 := hid ht3
  clear hes hW6 htx5 htx6 hkeep ne_wait ne_var hlo hrd hRa hRb hfind ht1 ht3 hvk hnd
  go_upto_region 45 with fail
  generalize hW7 : W6.setCell ⟨V.tx, k, none⟩ _ = W7
  have q1 := HRA.out.h1
  have q2 := HRA.out.h2
  have q3 := HRA.out.h3
  have q4 := HRA.out.h4
  have hs7 : W7.heap.size = W5.heap.size := by rw [← hW7, HW6.out]; simp
  have os7 : W7.os = W5.os := by rw [← hW7, HW6.out]; rfl
  have ou7 : W7.output = W5.output := by rw [← hW7, HW6.out]; rfl
  have kp7 : ∀ b, b ≠ V.tx → b ≠ A .live → W7.heap[b]? = W5.heap[b]? := fun b h1 h2 => by rw [← hW7, heap_setCell_ne _ h1, HW6.out, setO_other _ _ _ _ h2]
  have tx7 : W7.heap[V.tx]? = some (.cells (cs.setIfInBounds k (.pointer (some ⟨w1.heap.size + 1, 0, none⟩))) 96 (0, 0)) := by rw [← hW7]; exact heap_setCell_at _ HTX.out
  have lv7 : W7.heap[A .live]? = some (.map (es.push { key := .int .i64 ((k : Int) + 1), val := .pointer (some ⟨w1.heap.size + 1, 0, none⟩), born := k }) (k + 1)) := by
    rw [← hW7, heap_setCell_ne _ (HNV.out .live trivial _ (by simp [Var.all])), HW6.out, setO_heap _ _ _ (by omega)]
  have men : V.en ∈ V.all := by simp [Var.all]
  have mtx : V.tx ∈ V.all := by simp [Var.all]
  have mwt : V.wt ∈ V.all := by simp [Var.all]
  have hvl := vall_lt HRD.out.vars HRD.out.arr
  obtain ⟨ces, he1, he2, he3, he4⟩ := HRD.out.arr.en
  have enl := hvl _ men
  have txl := hvl _ mtx
  have en7 : W7.heap[V.en]? = some (.cells ces 4 (0, 0)) := by
    rw [kp7 _ (Ne.symm hte) (fun e => HNV.out .live trivial _ men e.symm), HRB.out.keep _ enl (fun e => HNV.out .wait trivial _ men e.symm) (Ne.symm hwe)]
    exact he1
  have zen : W7.cell? ⟨V.en, k, none⟩ = some (.bool false) := (cell_of en7 k).trans (he4 k (Nat.le_refl _) hlt)
  have fen : W7.frozen? ⟨V.en, k, none⟩ = false := frozen_of en7 k
  have sch7 : W7.heap[A .sch]? = w1.heap[A .sch]? := by
    rw [kp7 _ (HNV.out .sch trivial _ mtx) (fun e => absurd (HRD.out.rep.rep.inj .sch .live trivial trivial e) (by simp))]
    exact HKP.out .sch trivial (by simp)
  have zsc : W7.cell? ⟨A .sch, 0, none⟩ = some cv := by
    have := (HRD.out.rep.rep.cell .sch 0 cv rfl).2.1
    rw [← this]
    simp only [World.cell?, sch7]
  have fsc : W7.frozen? ⟨A .sch, 0, none⟩ = false := by
    have := (HRD.out.rep.rep.cell .sch 0 cv rfl).2.2
    rw [← this]
    simp only [World.frozen?, sch7]
  have sp7 : W7.heap[w1.heap.size]? = some (.cells (spA (D.sp k)) 27 (0, 0)) := by
    rw [kp7 _ (by omega) (by omega)]
    exact HRA.out.sp
  have zca : W7.cell? ⟨w1.heap.size, 0, none⟩ = some (.bool (D.sp k).casc) := cell_of sp7 0
  have hne : V.en ≠ A .sch := fun e => HNV.out .sch trivial _ men e.symm
  have hne' : ¬ A .sch = V.en := fun e => hne e.symm
  have hen1 : ¬ w1.heap.size = V.en := by omega
  -- the state behind, in all three ways
  have fin : ∀ (f' : Nat → Value) (W : World) (cv' : Value) (b : Bool), b = ends D k → Sl2 D V A cap f' → f' 27 = .int .i64 ((clOf D (k + 1)).length : Nat) → f' 28 = .int .i64 k → W.os = W7.os → W.output = W7.output → W7.heap.size ≤ W.heap.size → (∀ x, x < W7.heap.size → x ≠ V.en → x ≠ A .sch → cv.ownBlock ≠ some x → W.heap[x]? = W7.heap[x]?) →
      W.heap[V.en]? = some (.cells (ces.setIfInBounds k (.bool b)) 4 (0, 0)) → W.cell? ⟨A .sch, 0, none⟩ = some cv' → (∀ j, j ≠ 0 → W.cell? ⟨A .sch, j, none⟩ = W7.cell? ⟨A .sch, j, none⟩) → (∀ j, W.frozen? ⟨A .sch, j, none⟩ = W7.frozen? ⟨A .sch, j, none⟩) →
      W.ownsRow w0.heap.size 3 1 cv' (clOf D (k + 1)).length ((clOf D (k + 1)).map fun i : Nat => Value.int .i64 ((i : Int) + 1)) → (∀ x, cv'.ownBlock = some x → cv.ownBlock = some x ∨ W7.heap.size ≤ x) → M4 D V cap xcap k w0 ⟨frm f', []⟩ W := by
    intro f' W cv' b hb sl' h27 h28 hos hou hsz hkp hen hs0 hs1 hsf hown hcv
    refine ⟨f', nextA A k (w1.heap.size + 1) wt rm wm ch pn pl, cv', rfl, ⟨sl'.s1, sl'.s7, sl'.s11, sl'.s12, sl'.s13, sl'.s15, sl'.s16, sl'.s17, sl'.s18, sl'.s19, sl'.s22, sl'.s23, sl'.s24, sl'.s25, sl'.s26⟩, h27, h28, ?_⟩
    have hcvl := row_lt HRD.out.cv.own
    refine round_end D V A xcap k cv cv' w0 w1 W5 W c1 c2 c3 rm wm pn pl wt ch hlt HRD.out HRA.out HRB.out (hos.trans os7) (hou.trans ou7) (by omega) (fun x h1 h2 h3 h4 h5 h6 => (hkp x (by omega) h2 h4 h6).trans (kp7 x h3 h5)) ?_ ?_ ?_ hs0 (fun j hj => ?_) (fun j => ?_) hown (fun x hx => by rcases hcv x hx with h | h; exact Or.inl h; exact Or.inr (by omega))
    · refine ⟨_, (hkp _ (by omega) hte (fun e => HNV.out .sch trivial _ mtx e.symm) (fun e => HRD.out.cv.var _ e mtx)).trans tx7, by simpa using ht2, fun i hi => ?_, ?_⟩
      · rw [Array.getElem?_setIfInBounds_ne (by omega)]; exact HT3.out i hi
      · rw [Array.getElem?_setIfInBounds_self_of_lt (by omega)]; rfl
    · refine ⟨_, hen, by simpa using he2, fun i hi => ?_, fun i h1 h2 => ?_⟩
      · by_cases e : i = k
        · subst e
          rw [Array.getElem?_setIfInBounds_self_of_lt (by omega), hb]
        · rw [Array.getElem?_setIfInBounds_ne (by omega)]; exact he3 i (by omega)
      · rw [Array.getElem?_setIfInBounds_ne (by omega)]; exact he4 i (by omega) h2
    · rw [hkp _ (by omega) (fun e => HNV.out .live trivial _ men e) (fun e => absurd (HRD.out.rep.rep.inj .live .sch trivial trivial e) (by simp)) (fun e => HRD.out.cv.role _ e .live trivial rfl), lv7, HES.out]
      rfl
    · rw [hs1 j hj]
      simp only [World.cell?, sch7, HKP.out .sch trivial (by simp)]
    · rw [hsf j]
      simp only [World.frozen?, sch7, HKP.out .sch trivial (by simp)]
  have HFIN := hid fin
  have hcn := clOf_len D k
  have hcn' : ((clOf D k).length : Int) ≤ 1024 := by omega
  have hcn0 : (0 : Int) ≤ ((clOf D k).length : Int) := by omega
  have HEN := hid (And.intro en7 (And.intro he2 he4))
  have hcvl := row_lt HRD.out.cv.own
  have own7 : W7.ownsRow w0.heap.size 3 1 cv (clOf D k).length ((clOf D k).map fun i : Nat => Value.int .i64 ((i : Int) + 1)) := by
    refine row_keep HRD.out.cv.own (fun b hb => ?_)
    have := hcvl b hb
    rw [kp7 b (fun e => HRD.out.cv.var _ hb (by rw [e]; exact mtx)) (fun e => HRD.out.cv.role _ hb .live trivial e.symm)]
    exact HRB.out.keep b this.2 (fun e => HRD.out.cv.role _ hb .wait trivial e.symm) (fun e => HRD.out.cv.var _ hb (by rw [e]; exact mwt))
  have HOWN := hid own7
  have HCV := hid hcvl
  clear hW7 fin kp7 tx7 lv7 sp7 en7 he1 he3 he2 he4 own7 hcvl zk fk hup z110 HES HW6 HTX HKP HNW HLO HT3 hvl sch7
  by_cases hk0 : k = 0
  · have hk0i : ((k : Int) == 0) = true := by simp [hk0]
    have HK0 := hid hk0
    clear hk0
    go_wp2_with fail
    rw [HM.out]
    refine in_frm _ (by rfl) ?_
    intro f' hf'
    refine HFIN.out f' _ cv true ?_ ⟨(hf' 1).trans sl5.s1, (hf' 7).trans sl5.s7, (hf' 11).trans sl5.s11, (hf' 12).trans sl5.s12, (hf' 13).trans sl5.s13, hf' 15, hf' 16, (hf' 17).trans sl5.s17, hf' 18, (hf' 19).trans sl5.s19, hf' 22, hf' 23, hf' 24, hf' 25, hf' 26⟩ ?_ (hf' 28) rfl rfl (by simp) (fun x _ h1 _ _ => heap_setCell_ne _ h1) (heap_setCell_at _ HEN.out.1) ?_ (fun j _ => ?_) (fun j => ?_) ?_ (fun x hx => Or.inl hx)
    · unfold ends
      rw [HK0.out]
      rfl
    · rw [clOf_no D k (Or.inl HK0.out)]; exact hf' 27
    · rw [World.cell?_setCell_other _ _ _ _ (by simp [hne])]
      exact zsc
    · exact World.cell?_setCell_other _ _ _ _ (by simp [hne])
    · exact World.frozen?_setCell _ _ _ _
    · rw [clOf_no D k (Or.inl HK0.out)]
      exact row_keep HOWN.out (fun b hb => heap_setCell_ne _ (fun e => HRD.out.cv.var _ hb (by rw [e]; exact men)))
  · have hk0i : ((k : Int) == 0) = false := by simp [hk0]
    cases hca : (D.sp k).casc
    · rw [hca] at zca
      have hb : ends D k = false := by unfold ends; simp [hk0, hca]
      have HK0 := hid hk0
      clear hk0
      go_wp2_with fail
      rw [HM.out]
      refine in_frm _ (by rfl) ?_
      intro f' hf'
      refine HFIN.out f' W7 cv false hb.symm ⟨(hf' 1).trans sl5.s1, (hf' 7).trans sl5.s7, (hf' 11).trans sl5.s11, (hf' 12).trans sl5.s12, (hf' 13).trans sl5.s13, hf' 15, hf' 16, (hf' 17).trans sl5.s17, hf' 18, (hf' 19).trans sl5.s19, hf' 22, hf' 23, hf' 24, hf' 25, hf' 26⟩ ?_ (hf' 28) rfl rfl (Nat.le_refl _) (fun x _ _ _ _ => rfl) ?_ zsc (fun j _ => rfl) (fun j => rfl) ?_ (fun x hx => Or.inl hx)
      · rw [clOf_no D k (Or.inr hca)]; exact hf' 27
      · rw [HEN.out.1]
        have e4 := HEN.out.2.2 k (Nat.le_refl _) hlt
        have : ces.setIfInBounds k (.bool false) = ces := by
          apply Array.ext_getElem?
          intro i
          by_cases e : k = i
          · subst e
            rw [Array.getElem?_setIfInBounds_self_of_lt (by have := HEN.out.2.1; omega), e4]
          · rw [Array.getElem?_setIfInBounds_ne e]
        rw [this]
      · rw [clOf_no D k (Or.inr hca)]; exact HOWN.out
    · rw [hca] at zca
      have hb : ends D k = true := by unfold ends; simp [hca]
      have HK0 := hid hk0
      clear hk0
      obtain ⟨i0, hi, hz0, hz1, hz2⟩ := info_parts info3
      go_wp2_with (at_builtin; refine stop_ ?_)
      refine Hid.in_ ?_
      have own8 : (W7.setCell ⟨V.en, k, none⟩ (.bool true)).ownsRow w0.heap.size 3 1 cv (clOf D k).length ((clOf D k).map fun i : Nat => Value.int .i64 ((i : Int) + 1)) := row_keep HOWN.out (fun b hb => heap_setCell_ne _ (fun e => HRD.out.cv.var _ hb (by rw [e]; exact men)))
      refine wpList_append_lies _ rfl _ _ _ rfl w0.heap.size 3 i0 (.int .i64 0) 1 8 Yba.underlying25 hi hz0 hz1 hz2 rfl (by omega) cv _ _ rfl (own8.alloc _) ⟨_, 0, none⟩ 1 1 [.int .i64 ((k : Int) + 1)] rfl rfl (World.news_of_block (cs := #[.int .i64 ((k : Int) + 1)]) (t := 3) (fr := (0, 0)) ?_) (by simp [Value.oneCell']) (by omega) (by unfold maxLen; omega) (by omega) (by simp; omega) (W7.heap.size + 1) (by simp) ?_
      · have := heap_alloc_new (W7.setCell ⟨V.en, k, none⟩ (.bool true)) (.cells #[.int .i64 ((k : Int) + 1)] 3)
        simpa [hs7] using this
      intro g cap9 w9 hown9 hgr9 hat9 hlt9
      have hcs : cv.ownBlock ≠ some (A .sch) := fun e => HRD.out.cv.role _ e .sch trivial rfl
      have hce : cv.ownBlock ≠ some V.en := fun e => HRD.out.cv.var _ e men
      have hsz9 : W7.heap.size + 1 ≤ w9.heap.size := by have := hgr9.size; simp at this; omega
      have k9 : ∀ b, b < W7.heap.size → cv.ownBlock ≠ some b → w9.heap[b]? = (W7.setCell ⟨V.en, k, none⟩ (.bool true)).heap[b]? := fun b hb hx => by
        rw [hgr9.block b (by simp; omega) (Ne.symm hx)]
        exact heap_alloc_old _ _ (by simp; omega)
      have s9 : w9.heap[A .sch]? = W7.heap[A .sch]? := by
        rw [k9 _ (by omega) hcs, heap_setCell_ne _ hne']
      have c9 : w9.cell? ⟨A .sch, 0, none⟩ = some cv := by
        rw [← zsc]
        simp only [World.cell?, s9]
      have f9 : w9.frozen? ⟨A .sch, 0, none⟩ = false := by
        rw [← fsc]
        simp only [World.frozen?, s9]
      have e9 : w9.heap[V.en]? = some (.cells (ces.setIfInBounds k (.bool true)) 4 (0, 0)) := by
        rw [k9 _ (by omega) hce]
        exact heap_setCell_at _ HEN.out.1
      have os9 : w9.os = W7.os := hgr9.os
      have ou9 : w9.output = W7.output := hgr9.output
      have H9 := hid (show (∀ b, b < W7.heap.size → cv.ownBlock ≠ some b → w9.heap[b]? = (W7.setCell ⟨V.en, k, none⟩ (.bool true)).heap[b]?) ∧ w9.heap[A .sch]? = W7.heap[A .sch]? ∧ w9.heap[V.en]? = some (.cells (ces.setIfInBounds k (.bool true)) 4 (0, 0)) from ⟨k9, s9, e9⟩)
      have HO9 := hid hown9
      have hgsch : g ≠ A .sch := by
        rcases hat9 with e | e
        · intro e'; rw [e'] at e; exact hcs e
        · omega
      clear own8 hown9 hgr9 k9 s9 e9 hcs hce
      go_wp2_with fail
      rw [HM.out]
      refine in_frm _ (by rfl) ?_
      intro f' hf'
      refine HFIN.out f' _ (.slice (some ⟨g, 0, none⟩) ((clOf D k).length + 1) cap9) true hb.symm ⟨(hf' 1).trans sl5.s1, (hf' 7).trans sl5.s7, (hf' 11).trans sl5.s11, (hf' 12).trans sl5.s12, (hf' 13).trans sl5.s13, hf' 15, hf' 16, (hf' 17).trans sl5.s17, hf' 18, (hf' 19).trans sl5.s19, hf' 22, hf' 23, hf' 24, hf' 25, hf' 26⟩ ?_ (hf' 28) os9 ou9 (by simp; omega) (fun x h0 h1 h2 h3 => ?_) ?_ (World.cell?_setCell_same _ _ _ c9) (fun j hj => ?_) (fun j => ?_) ?_ (fun x hx => ?_)
      · rw [clOf_yes D k HK0.out hca]
        refine (hf' 27).trans ?_
        simp only [List.length_append, List.length_singleton]
        show Value.int _ _ = _
        go_num
      · rw [heap_setCell_ne _ h2, H9.out.1 x h0 h3, heap_setCell_ne _ h1]
      · rw [heap_setCell_ne _ hne]
        exact H9.out.2.2
      · rw [World.cell?_setCell_other _ _ _ _ (by simp)]
        simp only [World.cell?, H9.out.2.1]
      · rw [World.frozen?_setCell]
        simp only [World.frozen?, H9.out.2.1]
      · rw [clOf_yes D k HK0.out hca, List.map_append, List.length_append]
        refine row_keep HO9.out (fun b hbb => heap_setCell_ne _ (fun e => ?_))
        have e' : g = b := Option.some.inj hbb
        exact hgsch (e'.trans e)
      · have e' : g = x := Option.some.inj hx
        rcases hat9 with e | e
        · rw [e'] at e; exact Or.inl e
        · exact Or.inr (by omega)
end Go.Proofs.Ybulkedxc
