/-
  LawS6515BWhole: answer, walked.
-/
import Derived.Test.YbulkedxcAns3
namespace Go.Proofs.Ybulkedxc
open Go.RowKit
attribute [local simp] setO_size setT_same
variable {A : Role → Nat} {B : Nat} {W : World}

/-- the log's row behind a world that leaves every block of W but the roles' -/
theorem ownsRow_keep {w w' : World} {B n : Nat} {v : Value} {xs : List Value} (h : w.ownsRow B 3 1 v n xs) (hk : ∀ b, v.ownBlock = some b → w'.heap[b]? = w.heap[b]?) : w'.ownsRow B 3 1 v n xs := by
  obtain ⟨h1, h2⟩ := h
  refine ⟨h1, ?_⟩
  rcases h2 with h3 | ⟨g, cap, cur, rfl, hg, hheap, hnc, hm, hsz, htk⟩
  · exact Or.inl h3
  · exact Or.inr ⟨g, cap, cur, rfl, hg, (hk g rfl).trans hheap, hnc, hm, hsz, htk⟩

theorem RepF.grown {m : Role → Nat → Option Value} {o : Role → Option Obj} {D : Role → Prop} {W' : World} {row : Option Nat} (h : RepF A m o D B W) (hg : W.grownBy W' row) (hr : ∀ r, D r → row ≠ some (A r)) : RepF A m o D B W' := by
  have hs := hg.size
  have hb : ∀ r, D r → W'.heap[A r]? = W.heap[A r]? := fun r hd => hg.block _ (h.dom r hd).2 (fun e => hr r hd e.symm)
  refine ⟨?_, ?_, ?_, h.inj⟩
  · intro r k v hv
    obtain ⟨h1, h2, h3⟩ := h.cell r k v hv
    refine ⟨h1, ?_, ?_⟩
    · rw [← h2]; simp [World.cell?, hb r h1]
    · rw [← h3]; simp [World.frozen?, hb r h1]
  · intro r x hx
    obtain ⟨h1, h2⟩ := h.obj r x hx
    exact ⟨h1, (hb r h1).trans h2⟩
  · intro r hd
    have := h.dom r hd
    exact ⟨this.1, by omega⟩

theorem heap_setCell_ne {W : World} {g i k : Nat} (v : Value) (hk : k ≠ g) : (W.setCell ⟨g, i, none⟩ v).heap[k]? = W.heap[k]? := by
  simp [World.setCell, Array.getElem?_modify, Ne.symm hk]

theorem neq_nilFunc (w : World) : (binOp .neq 105 .nilFunc .nilFunc).run Yba.prog w = .ok (.bool false) w := by kernel_rfl
theorem neq_func (f : Fn) (a b : Array Value) (w : World) : (binOp .neq 105 (.func f a b) .nilFunc).run Yba.prog w = .ok (.bool true) w := by kernel_rfl

theorem hid {p : Prop} (h : p) : Hid p := h

theorem tally_rep {m : Role → Nat → Option Value} {o : Role → Option Obj} {D : Role → Prop} (H : Nat) (h : RepF A m o D B W) (hH : H ≤ W.heap.size) (hd : D .st) {ra ck : Int} (h5 : m .st 125 = some (.int .i64 ra)) (h4 : m .st 124 = some (.int .i64 ck)) (ho : o .st = none) (k : Int) (o1 o2 o3 : Value) (conf : Bool) :
    Calls Yba.prog 34 #[.pointer (some ⟨A .st, 0, none⟩), .agg #[.int .u8 k, o1, o2, o3], .bool conf, .bool true] W fun e w' => e = .returned (.tuple #[]) ∧
      RepF A (updm (updm m .st 125 (.int .i64 (if k = 1 then wrap64 (ra + 1) else ra))) .st 124 (.int .i64 (cond conf (wrap64 (ck + 1)) ck))) o D B w' ∧ Chg A D H W w' ∧ (∀ b, b < W.heap.size → b ≠ A .st → w'.heap[b]? = W.heap[b]?) := by
  have c5 := (h.cell _ _ _ h5).2
  have c4 := (h.cell _ _ _ h4).2
  refine (tally_any (A .st) k o1 o2 o3 conf ra ck W (h.dom _ hd).2 c5.1 c4.1 c5.2 c4.2).mono ?_
  rintro e w' ⟨rfl, x, rfl⟩
  refine ⟨rfl, (h.tally h5 h4 ho k conf).alloc x, (Chg.tally hd k conf ra ck).same (Chg.alloc (by rw [tallied_size]; exact hH) x), ?_⟩
  intro b hb hne
  rw [heap_alloc_old _ _ (by rw [tallied_size]; exact hb), tallied_other _ _ _ _ _ _ b hne]

set_option maxRecDepth 100000 in
set_option maxHeartbeats 3200000 in
theorem answer_any (E : Env) (S : Sys) (lx : List Int) (i H : Nat) (hR : Rep A E S lx B W) (hi : i < E.n) (hw : (E.sp i).wait = true) (ha : S.an i = false) (hlx : lx.length ≤ 1048576)
    (hH : H ≤ W.heap.size) (hlog : ∀ b, S.lv.ownBlock = some b → H ≤ b) :
    Calls Yba.prog 29 #[ptr (A .st), ptr (A (.U i)), .int .i64 0, errOf A i] W fun e W' => e = .returned (.tuple #[]) ∧ ∃ lv', Rep A E (answered E S i lv') (lx ++ cond (E.sp i).park [wrap64 (((i : Int) + 1) * 2)] []) B W' ∧
      Chg A (dom E S) H W W' ∧ (∀ b, lv'.ownBlock = some b → H ≤ b) := by
  have hF := hR.rep
  have dU : dom E S (.U i) := hi
  have dW : dom E S (.Wt i) := ⟨hi, hw⟩
  have dC : dom E S (.Ch i) := ⟨hi, hw⟩
  have dst : dom E S .st := trivial
  have dwm : dom E S .wait := trivial
  have mU3 : mem A E S (.U i) 3 = some (ptr (A (.Wt i))) := by simp [mem, uC, hi, hw, ha]
  have ms112 : mem A E S .st 112 = some (.map (some (A .wait))) := by simp [mem, stC]
  have mW5 : mem A E S (.Wt i) 5 = some (.int .i64 (((i : Int) + 1) * 10)) := by simp [mem, wC, hi, hw]
  obtain ⟨k, hf, hers⟩ := wait_part A E S i hi hw ha (answered E S i S.lv) rfl
  have ow : obj A E S .wait = some (.map ((waitL E S).map (waitE A E)).toArray (rank E E.n)) := rfl
  -- the first two statements
  have R1 := hF.setCell mU3 rfl (.pointer none)
  have R1d := R1.drew
  have R2 := R1d.setO ow (by intro c t f; simp) (.map (((waitL E S).map (waitE A E)).toArray.eraseIdxIfInBounds k) (rank E E.n))
  have hdel := fun ty => run_delete_hit (P := Yba.prog) (W.setCell ⟨A (.U i), 3, none⟩ (.pointer none)).drew (t := 41) (k' := 3) (ty := ty) (d := .int .i64) Yba.underlying41 Yba.underlying3 (R1d.obj .wait _ ow).2 (key := .int .i64 (((i : Int) + 1) * 10)) (v := ptr (A (.U i))) rfl hf
  have C2 : Chg A (dom E S) H W (setO (W.setCell ⟨A (.U i), 3, none⟩ (.pointer none)).drew (A .wait) (.map (((waitL E S).map (waitE A E)).toArray.eraseIdxIfInBounds k) (rank E E.n))) :=
    (((Chg.setCell dU 3 _).same (Chg.of_below (Below.refl _ _).drew (Nat.le_refl _)))).same (Chg.setO dwm _)
  have a1 := (hF.cell _ _ _ mU3).2
  have a2 := (hF.cell _ _ _ ms112).2
  have a3 := (hF.cell _ _ _ mW5).2
  have ne1 : ¬ A (.U i) = A .st := hF.ne dU dst (by simp)
  have ne2 : ¬ A (.U i) = A (.Wt i) := hF.ne dU dW (by simp)
  obtain ⟨a1, f1⟩ := a1
  obtain ⟨a2, _⟩ := a2
  obtain ⟨a3, _⟩ := a3
  have HR := hid hR
  have HR2 := hid R2
  have HC2 := hid C2
  have HE := hid hers
  have ML := hid mW5
  have HL := hid hlog
  clear R1 R1d R2 C2 hF hR ow hers mU3 ms112 mW5 hlog
  generalize hT : ((i : Int) + 1) * 10 = T at hf hdel a3
  generalize hX : (setO (W.setCell ⟨A (.U i), 3, none⟩ (.pointer none)).drew (A .wait) (.map (((waitL E S).map (waitE A E)).toArray.eraseIdxIfInBounds k) (rank E E.n))) = X at hdel HR2 HC2
  unfold ptr errOf at *
  go_enter Yba.func29, Yba.ntmps29
  go_wp2_with fail
  go_region
  clear hdel a1 a2 a3 f1 ne1 ne2 hf
  have szX : W.heap.size ≤ X.heap.size := HC2.out.size
  have b0 := (HR2.out.cell (.Wt i) 0 (.int .u8 (cond (E.sp i).ww 2 1)) (by simp [updm, mem, wC, hi, hw])).2.1
  have b1 := (HR2.out.cell (.Wt i) 1 (.int .i64 ((i : Int) + 1)) (by simp [updm, mem, wC, hi, hw])).2.1
  have b2 := (HR2.out.cell (.Wt i) 2 (.string ⟨#[120]⟩) (by simp [updm, mem, wC, hi, hw])).2.1
  have b3 := (HR2.out.cell (.Wt i) 3 (.string ⟨#[]⟩) (by simp [updm, mem, wC, hi, hw])).2.1
  have b6 := (HR2.out.cell (.Wt i) 6 (.bool (E.sp i).conf) (by simp [updm, mem, wC, hi, hw])).2.1
  generalize hkd : cond (E.sp i).ww (2 : Int) 1 = kd at b0
  go_wp2_with fail
  go_region_held3 (fun w' => w'.cell? ⟨A (.Wt i), 0, none⟩ = some (.int .u8 kd) ∧ w'.cell? ⟨A (.Wt i), 1, none⟩ = some (.int .i64 ((i : Int) + 1)) ∧ w'.cell? ⟨A (.Wt i), 2, none⟩ = some (.string ⟨#[120]⟩) ∧ w'.cell? ⟨A (.Wt i), 3, none⟩ = some (.string ⟨#[]⟩) ∧ w'.cell? ⟨A (.Wt i), 6, none⟩ = some (.bool (E.sp i).conf))
    (first
      | go_keep
      | exact ⟨(hY.out.cell (.Wt i) 0 (.int .u8 kd) (by simp [updm, mem, wC, hi, hw, hkd])).2.1, (hY.out.cell (.Wt i) 1 (.int .i64 ((i : Int) + 1)) (by simp [updm, mem, wC, hi, hw])).2.1, (hY.out.cell (.Wt i) 2 (.string ⟨#[120]⟩) (by simp [updm, mem, wC, hi, hw])).2.1, (hY.out.cell (.Wt i) 3 (.string ⟨#[]⟩) (by simp [updm, mem, wC, hi, hw])).2.1, (hY.out.cell (.Wt i) 6 (.bool (E.sp i).conf) (by simp [updm, mem, wC, hi, hw])).2.1⟩)
    ((go_at_call 34; refine (tally_rep H HR2.out.drew (Nat.le_trans hH szX) dst (ra := S.ra) (ck := S.ck) (by simp [updm, mem, stC]) (by simp [updm, mem, stC]) (by simp [updo, obj]) kd _ _ _ (E.sp i).conf).mono ?_; rintro e Y ⟨rfl, hY0, hCY, hkY⟩; have hY := hid hY0; have HCY := hid hCY; have HKY := hid hkY; clear hY0 hCY hkY))
  rename_i hHeld
  clear hHeld b0 b1 b2 b3 b6
  have szY : X.heap.size ≤ Y.heap.size := HCY.out.size
  have ekd : (if kd = 1 then wrap64 (S.ra + 1) else S.ra) = cond (E.sp i).ww S.ra (wrap64 (S.ra + 1)) := by rw [← hkd]; cases (E.sp i).ww <;> simp
  rw [ekd, HE.out] at hY
  clear ekd hkd
  have c9 := (hY.out.cell (.Wt i) 9 (.int .i64 7) (by simp [updm, mem, wC, hi, hw, ha])).2
  have c10 := (hY.out.cell (.Wt i) 10 .nilIface (by simp [updm, mem, wC, hi, hw, ha])).2
  have c8 := (hY.out.cell (.Wt i) 8 (.chan (some (A (.Ch i)))) (by simp [updm, mem, wC, hi, hw])).2.1
  have cp := (hY.out.cell (.U i) 10 (cond (E.sp i).park (.func (.func 14) #[] #[ptr (A (.Pn i)), ptr (A (.Pl i))]) .nilFunc) (by simp [updm, mem, uC, hi])).2.1
  have ne3 : ¬ A (.Wt i) = A (.U i) := hY.out.ne dW dU (by simp)
  have R4 := (hY.out.setCell (r0 := .Wt i) (k0 := 9) (old := .int .i64 7) (by simp [updm, mem, wC, hi, hw, ha]) (by simp [updo, obj]) (.int .i64 0)).setCell (r0 := .Wt i) (k0 := 10) (old := .nilIface) (by simp [updm, mem, wC, hi, hw, ha]) (by simp [updo, obj]) (errOf A i)
  have C4 : Chg A (dom E S) H Y ((Y.setCell ⟨A (.Wt i), 9, none⟩ (.int .i64 0)).setCell ⟨A (.Wt i), 10, none⟩ (errOf A i)) := (Chg.setCell dW 9 _).same (Chg.setCell dW 10 _)
  obtain ⟨c9, f9⟩ := c9
  obtain ⟨c10, f10⟩ := c10
  have HR4 := hid R4
  have HC4 := hid C4
  clear R4 C4
  have hcl := fun ts ty => run_close (P := Yba.prog) ((Y.setCell ⟨A (.Wt i), 9, none⟩ (.int .i64 0)).setCell ⟨A (.Wt i), 10, none⟩ (errOf A i)) (ts := ts) (ty := ty) (HR4.out.obj (.Ch i) (.chan 0 #[] false 0 0 false) (by simp [updo, obj, hi, hw, ha])).2
  have keep : ∀ b, S.lv.ownBlock = some b → b < W.heap.size ∧ ((Y.setCell ⟨A (.Wt i), 9, none⟩ (.int .i64 0)).setCell ⟨A (.Wt i), 10, none⟩ (errOf A i)).heap[b]? = W.heap[b]? := by
    intro b hb
    have hne : ∀ r, dom E S r → b ≠ A r := fun r hr e => HR.out.apart r hr (by rw [hb, e])
    have hlt : b < W.heap.size := by
      rcases HR.out.own.2 with ⟨h1, _⟩ | ⟨g, cap, cur, h1, _, h2, _⟩
      · rw [h1] at hb; simp [Value.ownBlock] at hb
      · rw [h1] at hb
        simp [Value.ownBlock] at hb
        subst hb
        exact (Array.getElem?_eq_some_iff.1 h2).1
    refine ⟨hlt, ?_⟩
    rw [heap_setCell_ne _ (hne _ dW), heap_setCell_ne _ (hne _ dW), HKY.out b (by show b < X.heap.size; omega) (hne _ dst)]
    show X.heap[b]? = _
    rw [← hX, setO_other _ _ _ _ (hne _ dwm)]
    exact heap_setCell_ne _ (hne _ dU)
  have HK := hid keep
  clear keep hX
  have dL : dom E S .log := trivial
  have nq1 := neq_nilFunc
  have nq2 := neq_func
  by_cases hpk : (E.sp i).park = true
  · rw [hpk] at cp
    simp only [cond_true] at cp
    have dN : dom E S (.Pn i) := ⟨hi, hpk⟩
    have dP : dom E S (.Pl i) := ⟨hi, hpk⟩
    have q1 := (HR4.out.cell (.Pn i) 0 (.int .i64 ((i : Int) + 1)) (by simp [updm, mem, hi, hpk])).2.1
    have q2 := (HR4.out.cell (.Pl i) 0 (ptr (A .log)) (by simp [updm, mem, hi, hpk])).2.1
    have q3 := (HR4.out.cell .log 0 S.lv (by simp [updm, mem])).2
    have szZ : W.heap.size ≤ ((Y.setCell ⟨A (.Wt i), 9, none⟩ (.int .i64 0)).setCell ⟨A (.Wt i), 10, none⟩ (errOf A i)).heap.size := by simp; omega
    have hpc := park_call ((i : Int) + 1) (A (.Pn i)) (A (.Pl i)) (A .log) B lx.length S.lv (lx.map (Value.int .i64)) _ q1 q2 q3.1 q3.2 (ownsRow_keep HR.out.own (fun b hb => (HK.out b hb).2)) hlx (Nat.le_trans HR.out.base szZ) (HR4.out.dom _ dP).2 (HR4.out.dom _ dL).2 (HR.out.apart _ dP) (HR.out.apart _ dL)
    have HPC := hid hpc
    clear hpc q1 q2 q3 hcl
    generalize hZ : ((Y.setCell ⟨A (.Wt i), 9, none⟩ (.int .i64 0)).setCell ⟨A (.Wt i), 10, none⟩ (errOf A i)) = Z at HR4 HC4 HK HPC szZ
    have c8Z := (HR4.out.cell (.Wt i) 8 (.chan (some (A (.Ch i)))) (by simp [updm, mem, wC, hi, hw])).2.1
    have cpZ := (HR4.out.cell (.U i) 10 (.func (.func 14) #[] #[ptr (A (.Pn i)), ptr (A (.Pl i))]) (by simp [updm, mem, uC, hi, hpk])).2.1
    simp only [errOf] at hZ
    generalize hnum : wrap64 (((i : Int) + 1) * 2) = V at HPC
    go_wp2_with (go_at_call 14; refine HPC.out.mono ?_; rintro e W5 ⟨rfl, g, cap, w2, hown2, hgrow, hat, hlt, hW5⟩; have R6 := ((HR4.out.alloc (.cells #[.int .i64 V] 3)).drew.grown hgrow (fun r hr => HR.out.apart r hr)).setCell (r0 := .log) (k0 := 0) (old := S.lv) (by simp [updm, mem]) (by simp [updo, obj]) (.slice (some ⟨g, 0, none⟩) (lx.length + 1) cap); rw [← hW5] at R6; have HR6 := hid R6; have c8W := (HR6.out.cell (.Wt i) 8 (.chan (some (A (.Ch i)))) (by simp [updm, mem, wC, hi, hw])).2.1; have hcl := fun ts ty => run_close (P := Yba.prog) W5 (ts := ts) (ty := ty) (HR6.out.obj (.Ch i) (.chan 0 #[] false 0 0 false) (by simp [updo, obj, hi, hw, ha])).2; have HG := hid hgrow; have HO2 := hid hown2; have HW5 := hid hW5; clear R6 hgrow hown2 hW5)
    go_end0
    have hgne : ∀ r, dom E S r → g ≠ A r := by
      intro r hr e
      rcases hat with h | h
      · exact HR.out.apart r hr (by rw [h, e])
      · have := (HR4.out.dom r hr).2; omega
    have sz2 : Z.heap.size ≤ w2.heap.size := by have := HG.out.size; simp at this; omega
    have sz5 : w2.heap.size = W5.heap.size := by rw [HW5.out]; simp
    refine ⟨rfl, .slice (some ⟨g, 0, none⟩) (lx.length + 1) cap, ⟨?_, ?_, ?_, ?_⟩, ?_, ?_⟩
    · rw [dom_answered]
      have R7 := HR6.out.setO (r0 := .Ch i) (x := .chan 0 #[] false 0 0 false) (by simp [updo, obj, hi, hw, ha]) (by intro c t f; simp) (.chan 0 #[] true 0 0 false)
      exact R7.mono (mem_answered A E S i _ hi hw) (obj_answered A E S i _ hi hw)
    · have := HR.out.base; simp; omega
    · rw [hpk, hnum]
      simp only [cond_true, List.length_append, List.map_append, List.length_cons, List.length_nil, List.map_cons, List.map_nil]
      refine ownsRow_keep HO2.out (fun b hb => ?_)
      have hb' : g = b := Option.some.inj hb
      subst hb'
      rw [setO_other _ _ _ _ (hgne _ dC), HW5.out]
      exact heap_setCell_ne _ (hgne _ dL)
    · rw [dom_answered]
      intro r hr e
      simp only [answered, Value.ownBlock, Option.some.injEq] at e
      exact hgne r hr e
    · have hHY : H ≤ Z.heap.size := by omega
      have CG : Chg A (dom E S) H (Z.alloc (.cells #[.int .i64 V] 3)).drew w2 := ⟨HG.out.os, HG.out.output, HG.out.size, fun b hb hr => HG.out.block b (by simp; omega) (fun e => by have := HL.out b e.symm; omega)⟩
      have C5 : Chg A (dom E S) H w2 W5 := by rw [HW5.out]; exact Chg.setCell dL 0 _
      exact HC2.out.same ((Chg.of_below (Below.refl _ _).drew (Nat.le_refl _)).same (HCY.out.same (HC4.out.same ((Chg.alloc hHY _).same ((Chg.of_below (Below.refl _ _).drew (Nat.le_refl _)).same (CG.same (C5.same (Chg.setO dC _))))))))
    · intro b hb
      have hb' : g = b := by simpa [Value.ownBlock] using hb
      subst hb'
      rcases hat with h | h
      · exact HL.out g h
      · omega
  · have hpk' : (E.sp i).park = false := by simpa using hpk
    rw [hpk'] at cp
    simp only [cond_false] at cp
    clear hpk
    simp only [errOf] at hcl
    go_wp2
    go_end0
    refine ⟨rfl, S.lv, ⟨?_, ?_, ?_, ?_⟩, ?_, ?_⟩
    · rw [dom_answered]
      have R5 := HR4.out.setO (r0 := .Ch i) (x := .chan 0 #[] false 0 0 false) (by simp [updo, obj, hi, hw, ha]) (by intro c t f; simp) (.chan 0 #[] true 0 0 false)
      have e := updm_self _ .log 0 S.lv (show updm (updm (updm (updm (updm (mem A E S) (.U i) 3 (.pointer none)) .st 125 (.int .i64 (cond (E.sp i).ww S.ra (wrap64 (S.ra + 1))))) .st 124 (.int .i64 (cond (E.sp i).conf (wrap64 (S.ck + 1)) S.ck))) (.Wt i) 9 (.int .i64 0)) (.Wt i) 10 (errOf A i) .log 0 = some S.lv by simp [updm, mem])
      rw [← e] at R5
      exact R5.mono (mem_answered A E S i S.lv hi hw) (obj_answered A E S i S.lv hi hw)
    · have := HR.out.base; simp; omega
    · rw [hpk']
      simp only [cond_false, List.append_nil]
      refine ownsRow_keep HR.out.own (fun b hb => ?_)
      have hne : b ≠ A (.Ch i) := fun e => HR.out.apart (.Ch i) dC (by rw [← e]; exact hb)
      rw [setO_other _ _ _ _ hne]
      exact (HK.out b hb).2
    · rw [dom_answered]; exact HR.out.apart
    · exact HC2.out.same ((Chg.of_below (Below.refl _ _).drew (Nat.le_refl _)).same (HCY.out.same (HC4.out.same (Chg.setO dC _))))
    · exact HL.out
end Go.Proofs.Ybulkedxc
