/-
  LawS6515BWhole: abortEnd, walked.
-/
import Derived.Test.YbulkedxcEnd3
import Derived.Deep.RegionWith
namespace Go.Proofs.Ybulkedxc
open Go.RowKit
attribute [local simp] setO_size setT_same
variable {A : Role → Nat} {D : Role → Prop} {B : Nat} {W : World}

/-- the state behind abortEnd -/
def gone (E : Env) (S : Sys) (i : Nat) (lv : Value) : Sys := cond (E.sp i).wait (answered E (ended E S i) i lv) (ended E S i)
/-- what the log gets -/
def logOf (E : Env) (i : Nat) : List Int := cond ((E.sp i).wait && (E.sp i).park) [wrap64 (((i : Int) + 1) * 2)] []

theorem neq_ptr_nil (t : TypeId) (d : TypeId) (h : Yba.prog.underlying t = some (.pointer d)) (a : Addr) (w : World) : (binOp .neq t (.pointer (some a)) (.pointer none)).run Yba.prog w = .ok (.bool true) w := by
  simp [go_sem, h]

set_option maxRecDepth 100000 in
set_option maxHeartbeats 3200000 in
theorem abortEnd_any (E : Env) (S : Sys) (lx : List Int) (i H : Nat) (hi : i < E.n) (he : S.en i = false) (ha : S.an i = false) (hH : H ≤ W.heap.size) (hlx : lx.length ≤ 1048576)
    (hF : RepF A (updm (mem A E (ended1 S i)) (.U i) 2 .nilIface) (updo (obj A E (ended1 S i)) .live (.map ((liveL E S).map (liveE A)).toArray E.n)) (dom E (ended1 S i)) B W)
    (hbase : B ≤ W.heap.size) (hown : W.ownsRow B 3 1 S.lv lx.length (lx.map (Value.int .i64))) (hap : ∀ r, dom E (ended1 S i) r → S.lv.ownBlock ≠ some (A r)) (hlog : ∀ b, S.lv.ownBlock = some b → H ≤ b) :
    Calls Yba.prog 20 #[ptr (A .st), ptr (A (.U i)), ptr (A (.Ae i))] W fun e W' => e = .returned (.tuple #[]) ∧ ∃ lv', Rep A E (gone E S i lv') (lx ++ logOf E i) B W' ∧ Chg A (dom E (ended1 S i)) H W W' ∧ (∀ b, (gone E S i lv').lv.ownBlock = some b → H ≤ b) := by
  have d6 := (hF.cell (.U i) 6 (.int .i32 0) (by simp [updm, mem, uC, hi])).2
  have d7 := (hF.cell (.U i) 7 (.int .i32 0) (by simp [updm, mem, uC, hi])).2
  have hlt : ∀ b, S.lv.ownBlock = some b → b < W.heap.size := by
    intro b hb
    rcases hown.2 with ⟨h1, _⟩ | ⟨g, cap, cur, h1, _, h2, _⟩
    · rw [h1] at hb; simp [Value.ownBlock] at hb
    · rw [h1] at hb
      simp [Value.ownBlock] at hb
      subst hb
      exact (Array.getElem?_eq_some_iff.1 h2).1
  -- end, at the world behind the draw
  have hend := end_any (W := W.drew) E S i W.heap.size hi he (Nat.le_refl _) hF.drew
  have HE := hid hend
  have HO := hid hown
  have HF := hid hF
  have HA := hid hap
  have HL := hid hlog
  have HT := hid hlt
  clear hend hown hF hap hlog hlt
  simp only [errOf] at HE
  unfold ptr at *
  go_enter Yba.func20, Yba.ntmps20
  go_wp2_with fail
  go_region_with (go_at_call 27; refine (forget_zero _ (A (.U i)) _ (by simpa using d6.1) (by simpa using d7.1) (by simpa using d6.2) (by simpa using d7.2)).mono ?_; rintro e w' ⟨rfl, rfl⟩)
  go_upto_region 2 with (go_at_call 28; refine HE.out.mono ?_; rintro e X ⟨rfl, hRX, hCX⟩; have HRX := hid hRX; have HCX := hid hCX; clear hRX hCX)
  have hown2 : X.ownsRow B 3 1 S.lv lx.length (lx.map (Value.int .i64)) := by
    refine ownsRow_keep HO.out (fun b hb => ?_)
    exact HCX.out.block b (HT.out b hb) (fun r hr e => HA.out r hr (by rw [hb, e]))
  have szX : W.heap.size ≤ X.heap.size := HCX.out.size
  have hR : Rep A E (ended E S i) lx B X := ⟨HRX.out, by omega, hown2, HA.out⟩
  have HRep := hid hR
  have HCt := hid (show Chg A (dom E (ended1 S i)) H W X from (Chg.of_below (Below.refl _ _).drew (Nat.le_refl _)).same ⟨HCX.out.os, HCX.out.output, HCX.out.size, fun b hb hr => HCX.out.block b (by omega) hr⟩)
  have c3 := (HRX.out.cell (.U i) 3 (cond ((E.sp i).wait && !S.an i) (ptr (A (.Wt i))) (.pointer none)) (by simp [mem, uC, hi, ended, ended1])).2.1
  rw [ha] at c3
  clear HE HO HF HA HRX HCX hown2 hR d6 d7
  by_cases hw : (E.sp i).wait = true
  · rw [hw] at c3
    simp only [Bool.not_false, Bool.and_self, cond_true] at c3
    have hans := answer_any (A := A) (B := B) (W := X) E (ended E S i) lx i H HRep.out hi hw ha hlx (by omega) HL.out
    have HAN := hid hans
    clear hans
    simp only [errOf] at HAN
    unfold ptr at *
    have nq := neq_ptr_nil 99 116 Yba.underlying99
    go_wp2_with (go_at_call 29; refine HAN.out.mono ?_; rintro e Y ⟨rfl, lv', hRY, hCY, hlY⟩)
    go_end0
    refine ⟨rfl, lv', ?_, HCt.out.same hCY, ?_⟩
    · simpa [gone, logOf, hw] using hRY
    · intro b hb
      refine hlY b ?_
      simpa [gone, hw, answered] using hb
  · have hw' : (E.sp i).wait = false := by simpa using hw
    rw [hw'] at c3
    simp only [Bool.not_false, Bool.false_and, cond_false] at c3
    go_wp2
    go_end0
    refine ⟨rfl, S.lv, ?_, HCt.out, ?_⟩
    · have := HRep.out
      simpa [gone, logOf, hw'] using this
    · intro b hb
      refine HL.out b ?_
      simpa [gone, hw', ended, ended1] using hb
end Go.Proofs.Ybulkedxc
