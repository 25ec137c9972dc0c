/-
  LawS6515BWhole: the states of aborted.
-/
import Derived.Test.YbulkedxcKept
namespace Go.Proofs.Ybulkedxc
open Go.RowKit
attribute [local simp] setO_size setT_same
set_option linter.unnecessarySimpa false
variable {A : Role → Nat} {B : Nat} {W : World}

def ckF (E : Env) (c : Int) (i : Nat) : Int := cond ((E.sp i).wait && (E.sp i).conf) (wrap64 (c + 1)) c
def raF (E : Env) (c : Int) (i : Nat) : Int := cond ((E.sp i).wait && !(E.sp i).ww) (wrap64 (c + 1)) c
def rdF (E : Env) (j : Nat) (r : Int) (i : Nat) : Int := cond (decide (j < 4) && (E.sp i).rd.testBit j) (wrap64 (r - 1)) r
def wrF (E : Env) (j : Nat) (r : Int) (i : Nat) : Int := cond (decide (j < 4) && (E.sp i).wr.testBit j) (wrap64 (r - 1)) r

/-- S is S0 behind the ends of the transactions l -/
structure Did (E : Env) (S0 S : Sys) (l : List Nat) (lx : List Int) : Prop where
  en : ∀ j, S.en j = decide (j ∈ l)
  an : ∀ j, S.an j = (decide (j ∈ l) && (E.sp j).wait)
  ck : S.ck = l.foldl (ckF E) S0.ck
  ra : S.ra = l.foldl (raF E) S0.ra
  rdr : ∀ j, S.rdr j = l.foldl (rdF E j) (S0.rdr j)
  wtr : ∀ j, S.wtr j = l.foldl (wrF E j) (S0.wtr j)
  nv : S.nv = S0.nv
  kn : S.kn = S0.kn
  lx : lx = l.flatMap (logOf E)

theorem Did.step {E : Env} {S0 S : Sys} {l : List Nat} {lx : List Int} (h : Did E S0 S l lx) (i : Nat) (lv : Value) : Did E S0 (gone E S i lv) (l ++ [i]) (lx ++ logOf E i) := by
  have e1 : ∀ j, (gone E S i lv).en j = setT S.en i j := by intro j; unfold gone; cases (E.sp i).wait <;> rfl
  have e2 : ∀ j, (gone E S i lv).an j = cond (E.sp i).wait (setT S.an i j) (S.an j) := by intro j; unfold gone; cases (E.sp i).wait <;> rfl
  refine ⟨?_, ?_, ?_, ?_, ?_, ?_, ?_, ?_, ?_⟩
  · intro j
    rw [e1]
    by_cases hj : j = i
    · subst hj; simp
    · rw [setT_ne _ hj, h.en j]; simp [hj]
  · intro j
    rw [e2]
    by_cases hj : j = i
    · subst hj
      cases hw : (E.sp j).wait
      · simp [h.an j, hw]
      · simp
    · have : (cond (E.sp i).wait (setT S.an i j) (S.an j)) = S.an j := by cases (E.sp i).wait <;> simp [setT_ne _ hj]
      rw [this, h.an j]
      simp [hj]
  · rw [List.foldl_append]
    simp only [List.foldl_cons, List.foldl_nil, ← h.ck]
    unfold gone ckF
    cases (E.sp i).wait <;> rfl
  · rw [List.foldl_append]
    simp only [List.foldl_cons, List.foldl_nil, ← h.ra]
    unfold gone raF
    cases hw : (E.sp i).wait
    · rfl
    · simp only [cond_true, answered, Bool.true_and]
      cases (E.sp i).ww <;> rfl
  · intro j
    rw [List.foldl_append]
    simp only [List.foldl_cons, List.foldl_nil, ← h.rdr]
    unfold gone
    cases (E.sp i).wait <;> rfl
  · intro j
    rw [List.foldl_append]
    simp only [List.foldl_cons, List.foldl_nil, ← h.wtr]
    unfold gone
    cases (E.sp i).wait <;> rfl
  · rw [← h.nv]; unfold gone; cases (E.sp i).wait <;> rfl
  · rw [← h.kn]; unfold gone; cases (E.sp i).wait <;> rfl
  · rw [h.lx]; simp

theorem dom_ended1 (E : Env) (S : Sys) (i : Nat) (hi : i < E.n) : dom E (ended1 S i) = fun r => dom E S r ∨ r = .Ae i := by
  funext r
  cases r using Role.split with
  | Ae j =>
    by_cases hj : j = i
    · subst hj; simp [dom, ended1, hi]
    · simp [dom, ended1, setT_ne _ hj, hj]
  | _ => simp [dom, ended1]

theorem updA_ne (A : Role → Nat) {r0 r : Role} (b : Nat) (h : r ≠ r0) : updA A r0 b r = A r := by simp [updA, h]
theorem updA_same (A : Role → Nat) (r0 : Role) (b : Nat) : updA A r0 b r0 = b := by simp [updA]

/-- the AbortError's block joins the roles -/
theorem add_ae (E : Env) (S : Sys) (i b : Nat) (hi : i < E.n) (he : S.en i = false) (ha : S.an i = false) (hF : RepF A (mem A E S) (obj A E S) (dom E S) B W) (hb : B ≤ b) (hlt : b < W.heap.size) (hfree : ∀ r, dom E S r → A r ≠ b)
    (hc : ∀ k v, aC E S i k = some v → W.cell? ⟨b, k, none⟩ = some v ∧ W.frozen? ⟨b, k, none⟩ = false) :
    RepF (updA A (.Ae i) b) (updm (mem (updA A (.Ae i) b) E (ended1 S i)) (.U i) 2 .nilIface) (updo (obj (updA A (.Ae i) b) E (ended1 S i)) .live (.map ((liveL E S).map (liveE (updA A (.Ae i) b))).toArray E.n)) (dom E (ended1 S i)) B W := by
  have hnd : ¬ dom E S (.Ae i) := by simp [dom, he]
  have h := hF.new hnd b hb hlt hfree (fun k => aC E S i k) none hc (by intro x hx; cases hx)
  rw [dom_ended1 E S i hi]
  refine h.mono ?_ ?_
  · intro r k v hv
    cases r using Role.split with
    | Ae j =>
      by_cases hj : j = i
      · subst hj
        simpa [updm, mem, ended1, hi, aC] using hv
      · simpa [updm, mem, ended1, setT_ne _ hj, hj, aC] using hv
    | U j =>
      by_cases hj : j = i
      · subst hj
        by_cases h2 : k = 2
        · subst h2
          simpa [updm, mem, uC, hi, he] using hv
        · simpa [updm, mem, uC, h2, updA, ended1] using hv
      · simpa [updm, mem, uC, hj, updA, ended1, setT_ne _ hj, errOf] using hv
    | Wt j =>
      by_cases hj : j = i
      · subst hj
        simpa [updm, mem, wC, ha, updA, ended1] using hv
      · simpa [updm, mem, wC, hj, updA, ended1, errOf] using hv
    | _ => simpa [updm, mem, stC, updA, ended1] using hv
  · intro r x hx
    have eU : ∀ j, updA A (.Ae i) b (.U j) = A (.U j) := fun j => by simp [updA]
    have e1 : liveE (updA A (.Ae i) b) = liveE A := by funext j; simp only [liveE, eU]
    have e2 : waitE (updA A (.Ae i) b) E = waitE A E := by funext j; simp only [waitE, eU]
    cases r using Role.split with
    | live => simpa [updo, obj, e1] using hx
    | wait => simpa [updo, obj, e2, waitL, ended1] using hx
    | _ => simpa [updo, obj, ended1] using hx
end Go.Proofs.Ybulkedxc
