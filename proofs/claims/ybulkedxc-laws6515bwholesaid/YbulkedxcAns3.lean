/-
  LawS6515BWhole: answer: the states.
-/
import Derived.Test.YbulkedxcAns2
namespace Go.Proofs.Ybulkedxc
open Go.RowKit
attribute [local simp] setO_size setT_same
set_option linter.unnecessarySimpa false
variable {A : Role → Nat} {m : Role → Nat → Option Value} {o : Role → Option Obj} {D : Role → Prop} {B : Nat} {W : World}

theorem updm_self (m : Role → Nat → Option Value) (r : Role) (k : Nat) (v : Value) (h : m r k = some v) : updm m r k v = m := by
  funext r' k'
  unfold updm
  split
  · rename_i e
    rw [e.1, e.2, h]
  · rfl

theorem RepF.tally (h : RepF A m o D B W) {ra ck : Int} (h5 : m .st 125 = some (.int .i64 ra)) (h4 : m .st 124 = some (.int .i64 ck)) (ho : o .st = none) (k : Int) (conf : Bool) :
    RepF A (updm (updm m .st 125 (.int .i64 (if k = 1 then wrap64 (ra + 1) else ra))) .st 124 (.int .i64 (cond conf (wrap64 (ck + 1)) ck))) o D B (tallied W (A .st) k conf ra ck) := by
  unfold tallied
  have h1 : RepF A (updm m .st 125 (.int .i64 (if k = 1 then wrap64 (ra + 1) else ra))) o D B (if k = 1 then W.setCell ⟨A .st, 125, none⟩ (.int .i64 (wrap64 (ra + 1))) else W) := by
    split
    · exact h.setCell h5 ho _
    · rw [updm_self _ _ _ _ h5]; exact h
  have h4' : updm m .st 125 (.int .i64 (if k = 1 then wrap64 (ra + 1) else ra)) .st 124 = some (.int .i64 ck) := by simp [updm, h4]
  cases conf
  · simp only [Bool.false_eq_true, if_false, cond_false]
    rw [updm_self _ _ _ _ h4']
    exact h1
  · simp only [if_true, cond_true]
    exact h1.setCell h4' ho _

theorem tallied_size (w : World) (st : Nat) (k : Int) (conf : Bool) (ra ck : Int) : (tallied w st k conf ra ck).heap.size = w.heap.size := by
  unfold tallied
  cases conf <;> split <;> simp
theorem tallied_other (w : World) (st : Nat) (k : Int) (conf : Bool) (ra ck : Int) (b : Nat) (h : b ≠ st) : (tallied w st k conf ra ck).heap[b]? = w.heap[b]? := by
  unfold tallied
  cases conf <;> split <;> simp [World.setCell, Array.getElem?_modify, Ne.symm h]
theorem tallied_cell (w : World) (st : Nat) (k : Int) (conf : Bool) (ra ck : Int) (a : Addr) (h : a.block ≠ st) : (tallied w st k conf ra ck).cell? a = w.cell? a := by
  simp [World.cell?, tallied_other w st k conf ra ck a.block h]
theorem Chg.tally {H : Nat} (hd : D .st) (k : Int) (conf : Bool) (ra ck : Int) : Chg A D H W (tallied W (A .st) k conf ra ck) := by
  refine ⟨?_, ?_, by rw [tallied_size]; omega, ?_⟩
  · unfold tallied; cases conf <;> split <;> rfl
  · unfold tallied; cases conf <;> split <;> rfl
  · intro b _ hb
    exact tallied_other _ _ _ _ _ _ b (fun e => hb .st hd e.symm)

/-- the state behind an answer -/
def answered (E : Env) (S : Sys) (i : Nat) (lv : Value) : Sys :=
  { S with an := setT S.an i, ra := cond (E.sp i).ww S.ra (wrap64 (S.ra + 1)), ck := cond (E.sp i).conf (wrap64 (S.ck + 1)) S.ck, lv := lv }

theorem stC_congr (A : Role → Nat) (E : Env) (S S' : Sys) (k : Nat) (hab : S'.ab = S.ab) (h5 : k ≠ 125) (h4 : k ≠ 124) : stC A E S' k = stC A E S k := by
  unfold stC
  simp only [h5, h4, if_false, hab]

theorem mem_answered (A : Role → Nat) (E : Env) (S : Sys) (i : Nat) (lv : Value) (hi : i < E.n) (hw : (E.sp i).wait = true) :
    ∀ r k v, mem A E (answered E S i lv) r k = some v →
      updm (updm (updm (updm (updm (updm (mem A E S) (.U i) 3 (.pointer none)) .st 125 (.int .i64 (cond (E.sp i).ww S.ra (wrap64 (S.ra + 1))))) .st 124 (.int .i64 (cond (E.sp i).conf (wrap64 (S.ck + 1)) S.ck)))
        (.Wt i) 9 (.int .i64 0)) (.Wt i) 10 (errOf A i)) .log 0 lv r k = some v := by
  intro r k v h
  cases r using Role.split with
  | st =>
    by_cases h5 : k = 125
    · subst h5; simpa [updm, mem, stC, answered] using h
    · by_cases h4 : k = 124
      · subst h4; simpa [updm, mem, stC, answered] using h
      · simp only [mem] at h
        rw [stC_congr A E S (answered E S i lv) k rfl h5 h4] at h
        simpa [updm, h5, h4, mem] using h
  | log =>
    by_cases h0 : k = 0
    · subst h0; simpa [updm, mem, answered] using h
    · simp [mem, h0] at h
  | U j =>
    by_cases hj : j = i
    · subst hj
      by_cases h3 : k = 3
      · subst h3; simpa [updm, mem, uC, answered, hi, hw] using h
      · simpa [updm, mem, uC, answered, hi, hw, h3] using h
    · simp only [mem] at h
      have e : uC A E (answered E S i lv) j k = uC A E S j k := by simp [uC, answered, setT_ne _ hj]
      rw [e] at h
      simpa [updm, mem, hj] using h
  | Wt j =>
    by_cases hj : j = i
    · subst hj
      by_cases h9 : k = 9
      · subst h9; simpa [updm, mem, wC, answered, hi, hw] using h
      · by_cases h10 : k = 10
        · subst h10; simpa [updm, mem, wC, answered, hi, hw] using h
        · simpa [updm, mem, wC, answered, hi, hw, h9, h10] using h
    · simp only [mem] at h
      have e : wC A E (answered E S i lv) j k = wC A E S j k := by simp [wC, answered, setT_ne _ hj]
      rw [e] at h
      simpa [updm, mem, hj] using h
  | _ => simpa [updm, mem, answered, aC] using h

theorem obj_answered (A : Role → Nat) (E : Env) (S : Sys) (i : Nat) (lv : Value) (hi : i < E.n) (hw : (E.sp i).wait = true) :
    ∀ r x, obj A E (answered E S i lv) r = some x →
      updo (updo (obj A E S) .wait (.map ((waitL E (answered E S i lv)).map (waitE A E)).toArray (rank E E.n))) (.Ch i) (.chan 0 #[] true 0 0 false) r = some x := by
  intro r x h
  cases r using Role.split with
  | wait => simpa [updo, obj] using h
  | Ch j =>
    by_cases hj : j = i
    · subst hj; simpa [updo, obj, answered, hi, hw] using h
    · simpa [updo, obj, answered, hj, setT_ne _ hj] using h
  | live => simpa [updo, obj, liveL, answered] using h
  | _ => simpa [updo, obj, answered] using h

theorem dom_answered (E : Env) (S : Sys) (i : Nat) (lv : Value) : dom E (answered E S i lv) = dom E S := by
  funext r
  cases r using Role.split <;> rfl
end Go.Proofs.Ybulkedxc
