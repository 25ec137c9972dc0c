/-
  LawS6515BWhole: end, walked.
-/
import Derived.Test.YbulkedxcEnd2
import Derived.Deep.CutBlock
import Derived.Deep.DeepCutAuto
namespace Go.Proofs.Ybulkedxc
open Go.RowKit
attribute [local simp] setO_size setT_same
variable {A : Role → Nat} {D : Role → Prop} {B : Nat} {W : World}

set_option maxRecDepth 100000 in
set_option maxHeartbeats 3200000 in
theorem end_any (E : Env) (S : Sys) (i H : Nat) (hi : i < E.n) (he : S.en i = false) (hH : H ≤ W.heap.size)
    (hF : RepF A (updm (mem A E (ended1 S i)) (.U i) 2 .nilIface) (updo (obj A E (ended1 S i)) .live (.map ((liveL E S).map (liveE A)).toArray E.n)) (dom E (ended1 S i)) B W) :
    Calls Yba.prog 28 #[ptr (A .st), ptr (A (.U i)), errOf A i] W fun e W' => e = .returned (.tuple #[]) ∧ RepF A (mem A E (ended E S i)) (obj A E (ended E S i)) (dom E (ended E S i)) B W' ∧ Chg A (dom E (ended1 S i)) H W W' := by
  have dU : dom E (ended1 S i) (.U i) := hi
  have dst : dom E (ended1 S i) .st := trivial
  have dlv : dom E (ended1 S i) .live := trivial
  obtain ⟨k, hf, hers⟩ := live_part A E S i hi he (ended1 S i) rfl
  have ol : updo (obj A E (ended1 S i)) .live (.map ((liveL E S).map (liveE A)).toArray E.n) .live = some (.map ((liveL E S).map (liveE A)).toArray E.n) := by simp [updo]
  have R1 := hF.setCell (r0 := .U i) (k0 := 2) (old := .nilIface) (by simp [updm]) (by simp [updo, obj]) (errOf A i)
  have R1d := R1.drew
  have R2 := R1d.setO ol (by intro c t f; simp) (.map (((liveL E S).map (liveE A)).toArray.eraseIdxIfInBounds k) E.n)
  have hdel := fun ty => run_delete_hit (P := Yba.prog) (W.setCell ⟨A (.U i), 2, none⟩ (errOf A i)).drew (t := 41) (k' := 3) (ty := ty) (d := .int .i64) Yba.underlying41 Yba.underlying3 (R1d.obj .live _ ol).2 (key := .int .i64 ((i : Int) + 1)) (v := ptr (A (.U i))) rfl hf
  have R3 : RepF A (mem A E (ended1 S i)) (obj A E (ended1 S i)) (dom E (ended1 S i)) B (setO (W.setCell ⟨A (.U i), 2, none⟩ (errOf A i)).drew (A .live) (.map (((liveL E S).map (liveE A)).toArray.eraseIdxIfInBounds k) E.n)) := by
    refine R2.mono ?_ ?_
    · intro r k v h
      by_cases e : r = .U i ∧ k = 2
      · obtain ⟨rfl, rfl⟩ := e
        simp only [updm, and_self, if_true]
        simpa [mem, uC, hi, ended1] using h
      · simp only [updm, e, if_false]; exact h
    · intro r x h
      by_cases e : r = .live
      · subst e
        simp only [updo, if_true]
        rw [hers]
        exact h
      · simp only [updo, e, if_false]; exact h
  have C3 : Chg A (dom E (ended1 S i)) H W (setO (W.setCell ⟨A (.U i), 2, none⟩ (errOf A i)).drew (A .live) (.map (((liveL E S).map (liveE A)).toArray.eraseIdxIfInBounds k) E.n)) :=
    (((Chg.setCell dU 2 _).same (Chg.of_below (Below.refl _ _).drew (Nat.le_refl _)))).same (Chg.setO dlv _)
  have a2 := (hF.cell (.U i) 2 .nilIface (by simp [updm])).2
  have a1 := (hF.cell (.U i) 1 (.int .i64 ((i : Int) + 1)) (by simp [updm, mem, uC, hi])).2.1
  have s110 := (hF.cell .st 110 (.map (some (A .live))) (by simp [updm, mem, stC])).2.1
  have ne1 : ¬ A (.U i) = A .st := hF.ne dU dst (by simp)
  obtain ⟨a2, f2⟩ := a2
  have HR3 := hid R3
  have HC3 := hid C3
  clear R1 R1d R2 R3 C3 hF ol hers hf
  generalize hX : (setO (W.setCell ⟨A (.U i), 2, none⟩ (errOf A i)).drew (A .live) (.map (((liveL E S).map (liveE A)).toArray.eraseIdxIfInBounds k) E.n)) = X at hdel HR3 HC3
  have szX : W.heap.size ≤ X.heap.size := HC3.out.size
  simp only [errOf] at hdel ⊢
  unfold ptr at *
  go_enter Yba.func28, Yba.ntmps28
  go_wp2_with fail
  go_region
  clear hdel a1 a2 f2 s110 ne1 hX
  have rdc := (HR3.out.cell (.U i) 4 (setVal (E.sp i).rd (A (.Rm i))) (by simp [mem, uC, hi])).2.1
  by_cases hnilrd : bitsOf (E.sp i).rd = []
  · have hv : setVal (E.sp i).rd (A (.Rm i)) = .map none := by simp [setVal, hnilrd]
    rw [hv] at rdc
    clear hv
    have hrg := run_range_nilMap (P := Yba.prog) X 100 9 4 Yba.underlying100
    have hnx : ∀ ty, (Instr.next (.pointer (some ⟨X.heap.size, 0, none⟩)) false ty).run Yba.prog (X.alloc (.mapIter none 0 #[] 0)) = _ := fun ty => run_next_nilMap X ty 0 0 #[]
    go_wp2_with fail
    refine wp_loop_rounds 1 ?_
    rw [rounds_succ]
    have HRna := hid (show RepF A (mem A E { ended1 S i with rdr := decr (E.sp i).rd S.rdr }) (obj A E (ended1 S i)) (dom E (ended1 S i)) B (X.alloc (.mapIter none 0 #[] 0)) from by rw [decr_nil hnilrd]; exact HR3.out.alloc _)
    have HCna := hid (HC3.out.same (Chg.alloc (A := A) (D := (dom E (ended1 S i))) (by have := HC3.out.size; omega) (.mapIter none 0 #[] 0)))
    clear rdc hrg HR3 HC3
    generalize hXn : X.alloc (.mapIter none 0 #[] 0) = Xna at hnx HRna HCna
    have wrc := (HRna.out.cell (.U i) 5 (setVal (E.sp i).wr (A (.Wm i))) (by simp [mem, uC, hi])).2.1
    by_cases hnilwr : bitsOf (E.sp i).wr = []
    · have hv : setVal (E.sp i).wr (A (.Wm i)) = .map none := by simp [setVal, hnilwr]
      rw [hv] at wrc
      clear hv
      have hrg := run_range_nilMap (P := Yba.prog) Xna 100 9 4 Yba.underlying100
      have hnx : ∀ ty, (Instr.next (.pointer (some ⟨Xna.heap.size, 0, none⟩)) false ty).run Yba.prog (Xna.alloc (.mapIter none 0 #[] 0)) = _ := fun ty => run_next_nilMap Xna ty 0 0 #[]
      go_wp2_with fail
      refine wp_loop_rounds 1 ?_
      rw [rounds_succ]
      have HRnb := hid (show RepF A (mem A E { { ended1 S i with rdr := decr (E.sp i).rd S.rdr } with wtr := decr (E.sp i).wr S.wtr }) (obj A E (ended1 S i)) (dom E (ended1 S i)) B (Xna.alloc (.mapIter none 0 #[] 0)) from by rw [decr_nil hnilwr]; exact HRna.out.alloc _)
      have HCnb := hid (HCna.out.same (Chg.alloc (A := A) (D := (dom E (ended1 S i))) (by have := HCna.out.size; omega) (.mapIter none 0 #[] 0)))
      clear wrc hrg HRna HCna
      generalize hXn : Xna.alloc (.mapIter none 0 #[] 0) = Xnb at hnx HRnb HCnb
      go_wp2
      clear hnx hXn
      go_end0
      exact ⟨rfl, HRnb.out, HCnb.out⟩
    · have hv : setVal (E.sp i).wr (A (.Wm i)) = .map (some (A (.Wm i))) := by simp [setVal, hnilwr]
      rw [hv] at wrc
      clear hv
      have ob : ∀ Z : World, RepF A (mem A E (ended1 S i)) (obj A E (ended1 S i)) (dom E (ended1 S i)) B Z → True := fun _ _ => trivial
      have oeq : obj A E (ended1 S i) (.Wm i) = some (.map (setEnts (E.sp i).wr) (bitsOf (E.sp i).wr).length) := by simp [obj, hi, hnilwr]
      have hrg := run_range_map (P := Yba.prog) Xna 100 9 4 (A (.Wm i)) _ _ Yba.underlying100 (HRna.out.obj (.Wm i) _ oeq).2
      clear ob
      go_wp2_with fail
      clear hrg wrc
      go_loopw [9] (fun _ wr => ∃ (w1 : World) (seen : Array Nat), wr = w1.alloc (.mapIter (some (A (.Wm i))) (bitsOf (E.sp i).wr).length seen (bitsOf (E.sp i).wr).length) ∧ w1.heap.size = Xna.heap.size ∧ RepF A (mem A E { { ended1 S i with rdr := decr (E.sp i).rd S.rdr } with wtr := decrS (E.sp i).wr seen S.wtr }) (obj A E (ended1 S i)) (dom E (ended1 S i)) B w1 ∧ Chg A (dom E (ended1 S i)) H W w1) (fun _ wr => (leftOf (setEnts (E.sp i).wr) (wr.iterSeen Xna.heap.size)).size)
      case atStart => exact ⟨Xna, #[], rfl, rfl, by rw [decrS_empty]; exact HRna.out, HCna.out⟩
      case round =>
        obtain ⟨w1, seen, rfl, hsz, hR, hC⟩ := hrel
        have law := run_next_map (P := Yba.prog) w1 0 (A (.Wm i)) (bitsOf (E.sp i).wr).length (bitsOf (E.sp i).wr).length seen (setEnts (E.sp i).wr) (bitsOf (E.sp i).wr).length (hR.obj (.Wm i) _ oeq).2 (set_old _) (Nat.le_refl _)
        rw [hsz] at law
        have HR1 := hid hR
        have HC1 := hid hC
        clear hR hC
        rcases law with ⟨h0, hrun⟩ | ⟨e, hel, w2, hal, hrun⟩
        · have hnx : ∀ ty, (Instr.next (.pointer (some ⟨Xna.heap.size, 0, none⟩)) false ty).run Yba.prog (w1.alloc (.mapIter (some (A (.Wm i))) (bitsOf (E.sp i).wr).length seen (bitsOf (E.sp i).wr).length)) = _ := fun _ => hrun
          have HRnb := hid (show RepF A (mem A E { { ended1 S i with rdr := decr (E.sp i).rd S.rdr } with wtr := decr (E.sp i).wr S.wtr }) (obj A E (ended1 S i)) (dom E (ended1 S i)) B (w1.alloc (.mapIter (some (A (.Wm i))) (bitsOf (E.sp i).wr).length seen (bitsOf (E.sp i).wr).length)) from by rw [← decrS_full h0]; exact HR1.out.alloc _)
          have HCnb := hid (HC1.out.same (Chg.alloc (A := A) (D := (dom E (ended1 S i))) (by have := HC1.out.size; omega) (.mapIter (some (A (.Wm i))) (bitsOf (E.sp i).wr).length seen (bitsOf (E.sp i).wr).length)))
          clear HRna HCna HR1 HC1 hrun oeq h0
          generalize hXn : w1.alloc (.mapIter (some (A (.Wm i))) (bitsOf (E.sp i).wr).length seen (bitsOf (E.sp i).wr).length) = Xnb at hnx HRnb HCnb
          go_wp2
          clear hnx hXn hsz
          go_end0
          exact ⟨rfl, HRnb.out, HCnb.out⟩
        · obtain ⟨j, hj, hee⟩ := set_mem (mem_left hel).1
          have hj4 : j < 4 := ((bits_mem _ j).1 (List.mem_of_getElem? hj)).1
          have hkey : e.key = .string (nm j) := by rw [hee]
          have hval : e.val = .bool true := by rw [hee]
          have hs2 := (mem_left hel).2
          have HRw := hid (HR1.out.alike hal)
          have HCw := hid (HC1.out.same (Chg.alike (A := A) (D := (dom E (ended1 S i))) hal))
          have hsz2 : w2.heap.size = Xna.heap.size := by rw [hal.1]; exact hsz
          have hen := run_entry_map (P := Yba.prog) w2 (A (.Wm i)) (bitsOf (E.sp i).wr).length seen (setEnts (E.sp i).wr) (bitsOf (E.sp i).wr).length e (HRw.out.obj (.Wm i) _ oeq).2 (mem_left hel).1 (set_borns _)
          rw [hkey, hval] at hrun hen
          rw [hsz2] at hen
          have hnx : ∀ ty, (Instr.next (.pointer (some ⟨Xna.heap.size, 0, none⟩)) false ty).run Yba.prog (w1.alloc (.mapIter (some (A (.Wm i))) (bitsOf (E.sp i).wr).length seen (bitsOf (E.sp i).wr).length)) = _ := fun _ => hrun
          have hsx : A .xs < w2.heap.size := (HRw.out.dom .xs trivial).2
          have HT := hid ((tabAt_of HRw.out rfl).alloc (HRw.out.dom .st trivial).2 (HRw.out.dom .slots trivial).2 (HRw.out.dom .long trivial).2 (.mapIter (some (A (.Wm i))) (bitsOf (E.sp i).wr).length (seen.push e.born) (bitsOf (E.sp i).wr).length))
          have hfr : decrS (E.sp i).wr seen S.wtr j = S.wtr j := by simp [decrS, hit_fresh hj hs2]
          have hmx : mem A E { { ended1 S i with rdr := decr (E.sp i).rd S.rdr } with wtr := decrS (E.sp i).wr seen S.wtr } .xs (j * 3 + 2) = some (.int .i64 (S.wtr j)) := by
            have e1 : (j * 3 + 2) / 3 = j := by omega
            have e2 : (j * 3 + 2) % 3 = 2 := by omega
            simp only [mem, e1, e2, hfr]
            rw [if_pos (by omega)]
            simp
          have cx := ((HRw.out.alloc (.mapIter (some (A (.Wm i))) (bitsOf (E.sp i).wr).length (seen.push e.born) (bitsOf (E.sp i).wr).length)).cell .xs (j * 3 + 2) _ hmx).2
          obtain ⟨cx, fx⟩ := cx
          have fx0 := (HRw.out.cell .xs (j * 3 + 2) _ hmx).2.2
          have c131 := ((HRw.out.alloc (.mapIter (some (A (.Wm i))) (bitsOf (E.sp i).wr).length (seen.push e.born) (bitsOf (E.sp i).wr).length)).cell .st 131 (.slice (some ⟨A .xs, 0, none⟩) 4 E.xcap) (by simp [mem, stC])).2.1
          clear hrun hkey hval hee
          go_wp2_with (go_at_call 33; refine (find_nm j hj4 _ _ _ _ _ HT.out).mono ?_; rintro e' w' ⟨rfl, rfl⟩)
          go_roundw
          case rel =>
            refine ⟨w2.setCell ⟨A .xs, j * 3 + 2, none⟩ (.int .i64 (wrap64 (S.wtr j - 1))), seen.push e.born, setCell_alloc _ _ hsx, by simpa using hsz2, ?_, ?_⟩
            · exact (HRw.out.setCell hmx (by rfl) _).mono (mem_wtr E ({ ended1 S i with rdr := decr (E.sp i).rd S.rdr }) (E.sp i).wr e.born j seen S.wtr hj) (fun _ _ h => h)
            · exact HCw.out.same (Chg.setCell (A := A) (D := (dom E (ended1 S i))) (r := .xs) trivial _ _)
          case measure =>
            have hz : (w2.setCell ⟨A .xs, j * 3 + 2, none⟩ (.int .i64 (wrap64 (S.wtr j - 1)))).heap.size = Xna.heap.size := by simpa using hsz2
            rw [setCell_alloc _ _ hsx, ← hz, World.iterSeen_alloc, hz, ← hsz, World.iterSeen_alloc]
            exact left_shrinks _ seen e hel
  · have hv : setVal (E.sp i).rd (A (.Rm i)) = .map (some (A (.Rm i))) := by simp [setVal, hnilrd]
    rw [hv] at rdc
    clear hv
    have ob : ∀ Z : World, RepF A (mem A E (ended1 S i)) (obj A E (ended1 S i)) (dom E (ended1 S i)) B Z → True := fun _ _ => trivial
    have oeq : obj A E (ended1 S i) (.Rm i) = some (.map (setEnts (E.sp i).rd) (bitsOf (E.sp i).rd).length) := by simp [obj, hi, hnilrd]
    have hrg := run_range_map (P := Yba.prog) X 100 9 4 (A (.Rm i)) _ _ Yba.underlying100 (HR3.out.obj (.Rm i) _ oeq).2
    clear ob
    go_wp2_with fail
    clear hrg rdc
    go_loopw [6] (fun _ wr => ∃ (w1 : World) (seen : Array Nat), wr = w1.alloc (.mapIter (some (A (.Rm i))) (bitsOf (E.sp i).rd).length seen (bitsOf (E.sp i).rd).length) ∧ w1.heap.size = X.heap.size ∧ RepF A (mem A E { ended1 S i with rdr := decrS (E.sp i).rd seen S.rdr }) (obj A E (ended1 S i)) (dom E (ended1 S i)) B w1 ∧ Chg A (dom E (ended1 S i)) H W w1) (fun _ wr => (leftOf (setEnts (E.sp i).rd) (wr.iterSeen X.heap.size)).size)
    case atStart => exact ⟨X, #[], rfl, rfl, by rw [decrS_empty]; exact HR3.out, HC3.out⟩
    case round =>
      obtain ⟨w1, seen, rfl, hsz, hR, hC⟩ := hrel
      have law := run_next_map (P := Yba.prog) w1 0 (A (.Rm i)) (bitsOf (E.sp i).rd).length (bitsOf (E.sp i).rd).length seen (setEnts (E.sp i).rd) (bitsOf (E.sp i).rd).length (hR.obj (.Rm i) _ oeq).2 (set_old _) (Nat.le_refl _)
      rw [hsz] at law
      have HR1 := hid hR
      have HC1 := hid hC
      clear hR hC
      rcases law with ⟨h0, hrun⟩ | ⟨e, hel, w2, hal, hrun⟩
      · have hnx : ∀ ty, (Instr.next (.pointer (some ⟨X.heap.size, 0, none⟩)) false ty).run Yba.prog (w1.alloc (.mapIter (some (A (.Rm i))) (bitsOf (E.sp i).rd).length seen (bitsOf (E.sp i).rd).length)) = _ := fun _ => hrun
        have HRna := hid (show RepF A (mem A E { ended1 S i with rdr := decr (E.sp i).rd S.rdr }) (obj A E (ended1 S i)) (dom E (ended1 S i)) B (w1.alloc (.mapIter (some (A (.Rm i))) (bitsOf (E.sp i).rd).length seen (bitsOf (E.sp i).rd).length)) from by rw [← decrS_full h0]; exact HR1.out.alloc _)
        have HCna := hid (HC1.out.same (Chg.alloc (A := A) (D := (dom E (ended1 S i))) (by have := HC1.out.size; omega) (.mapIter (some (A (.Rm i))) (bitsOf (E.sp i).rd).length seen (bitsOf (E.sp i).rd).length)))
        clear HR3 HC3 HR1 HC1 hrun oeq h0
        generalize hXn : w1.alloc (.mapIter (some (A (.Rm i))) (bitsOf (E.sp i).rd).length seen (bitsOf (E.sp i).rd).length) = Xna at hnx HRna HCna
        have wrc := (HRna.out.cell (.U i) 5 (setVal (E.sp i).wr (A (.Wm i))) (by simp [mem, uC, hi])).2.1
        by_cases hnilwr : bitsOf (E.sp i).wr = []
        · have hv : setVal (E.sp i).wr (A (.Wm i)) = .map none := by simp [setVal, hnilwr]
          rw [hv] at wrc
          clear hv
          have hrg := run_range_nilMap (P := Yba.prog) Xna 100 9 4 Yba.underlying100
          have hnx : ∀ ty, (Instr.next (.pointer (some ⟨Xna.heap.size, 0, none⟩)) false ty).run Yba.prog (Xna.alloc (.mapIter none 0 #[] 0)) = _ := fun ty => run_next_nilMap Xna ty 0 0 #[]
          go_wp2_with fail
          refine wp_loop_rounds 1 ?_
          rw [rounds_succ]
          have HRnb := hid (show RepF A (mem A E { { ended1 S i with rdr := decr (E.sp i).rd S.rdr } with wtr := decr (E.sp i).wr S.wtr }) (obj A E (ended1 S i)) (dom E (ended1 S i)) B (Xna.alloc (.mapIter none 0 #[] 0)) from by rw [decr_nil hnilwr]; exact HRna.out.alloc _)
          have HCnb := hid (HCna.out.same (Chg.alloc (A := A) (D := (dom E (ended1 S i))) (by have := HCna.out.size; omega) (.mapIter none 0 #[] 0)))
          clear wrc hrg HRna HCna
          generalize hXn : Xna.alloc (.mapIter none 0 #[] 0) = Xnb at hnx HRnb HCnb
          go_wp2
          clear hnx hXn
          go_end0
          exact ⟨rfl, HRnb.out, HCnb.out⟩
        · have hv : setVal (E.sp i).wr (A (.Wm i)) = .map (some (A (.Wm i))) := by simp [setVal, hnilwr]
          rw [hv] at wrc
          clear hv
          have ob : ∀ Z : World, RepF A (mem A E (ended1 S i)) (obj A E (ended1 S i)) (dom E (ended1 S i)) B Z → True := fun _ _ => trivial
          have oeq : obj A E (ended1 S i) (.Wm i) = some (.map (setEnts (E.sp i).wr) (bitsOf (E.sp i).wr).length) := by simp [obj, hi, hnilwr]
          have hrg := run_range_map (P := Yba.prog) Xna 100 9 4 (A (.Wm i)) _ _ Yba.underlying100 (HRna.out.obj (.Wm i) _ oeq).2
          clear ob
          go_wp2_with fail
          clear hrg wrc
          go_loopw [9] (fun _ wr => ∃ (w1 : World) (seen : Array Nat), wr = w1.alloc (.mapIter (some (A (.Wm i))) (bitsOf (E.sp i).wr).length seen (bitsOf (E.sp i).wr).length) ∧ w1.heap.size = Xna.heap.size ∧ RepF A (mem A E { { ended1 S i with rdr := decr (E.sp i).rd S.rdr } with wtr := decrS (E.sp i).wr seen S.wtr }) (obj A E (ended1 S i)) (dom E (ended1 S i)) B w1 ∧ Chg A (dom E (ended1 S i)) H W w1) (fun _ wr => (leftOf (setEnts (E.sp i).wr) (wr.iterSeen Xna.heap.size)).size)
          case atStart => exact ⟨Xna, #[], rfl, rfl, by rw [decrS_empty]; exact HRna.out, HCna.out⟩
          case round =>
            obtain ⟨w1, seen, rfl, hsz, hR, hC⟩ := hrel
            have law := run_next_map (P := Yba.prog) w1 0 (A (.Wm i)) (bitsOf (E.sp i).wr).length (bitsOf (E.sp i).wr).length seen (setEnts (E.sp i).wr) (bitsOf (E.sp i).wr).length (hR.obj (.Wm i) _ oeq).2 (set_old _) (Nat.le_refl _)
            rw [hsz] at law
            have HR1 := hid hR
            have HC1 := hid hC
            clear hR hC
            rcases law with ⟨h0, hrun⟩ | ⟨e, hel, w2, hal, hrun⟩
            · have hnx : ∀ ty, (Instr.next (.pointer (some ⟨Xna.heap.size, 0, none⟩)) false ty).run Yba.prog (w1.alloc (.mapIter (some (A (.Wm i))) (bitsOf (E.sp i).wr).length seen (bitsOf (E.sp i).wr).length)) = _ := fun _ => hrun
              have HRnb := hid (show RepF A (mem A E { { ended1 S i with rdr := decr (E.sp i).rd S.rdr } with wtr := decr (E.sp i).wr S.wtr }) (obj A E (ended1 S i)) (dom E (ended1 S i)) B (w1.alloc (.mapIter (some (A (.Wm i))) (bitsOf (E.sp i).wr).length seen (bitsOf (E.sp i).wr).length)) from by rw [← decrS_full h0]; exact HR1.out.alloc _)
              have HCnb := hid (HC1.out.same (Chg.alloc (A := A) (D := (dom E (ended1 S i))) (by have := HC1.out.size; omega) (.mapIter (some (A (.Wm i))) (bitsOf (E.sp i).wr).length seen (bitsOf (E.sp i).wr).length)))
              clear HRna HCna HR1 HC1 hrun oeq h0
              generalize hXn : w1.alloc (.mapIter (some (A (.Wm i))) (bitsOf (E.sp i).wr).length seen (bitsOf (E.sp i).wr).length) = Xnb at hnx HRnb HCnb
              go_wp2
              clear hnx hXn hsz
              go_end0
              exact ⟨rfl, HRnb.out, HCnb.out⟩
            · obtain ⟨j, hj, hee⟩ := set_mem (mem_left hel).1
              have hj4 : j < 4 := ((bits_mem _ j).1 (List.mem_of_getElem? hj)).1
              have hkey : e.key = .string (nm j) := by rw [hee]
              have hval : e.val = .bool true := by rw [hee]
              have hs2 := (mem_left hel).2
              have HRw := hid (HR1.out.alike hal)
              have HCw := hid (HC1.out.same (Chg.alike (A := A) (D := (dom E (ended1 S i))) hal))
              have hsz2 : w2.heap.size = Xna.heap.size := by rw [hal.1]; exact hsz
              have hen := run_entry_map (P := Yba.prog) w2 (A (.Wm i)) (bitsOf (E.sp i).wr).length seen (setEnts (E.sp i).wr) (bitsOf (E.sp i).wr).length e (HRw.out.obj (.Wm i) _ oeq).2 (mem_left hel).1 (set_borns _)
              rw [hkey, hval] at hrun hen
              rw [hsz2] at hen
              have hnx : ∀ ty, (Instr.next (.pointer (some ⟨Xna.heap.size, 0, none⟩)) false ty).run Yba.prog (w1.alloc (.mapIter (some (A (.Wm i))) (bitsOf (E.sp i).wr).length seen (bitsOf (E.sp i).wr).length)) = _ := fun _ => hrun
              have hsx : A .xs < w2.heap.size := (HRw.out.dom .xs trivial).2
              have HT := hid ((tabAt_of HRw.out rfl).alloc (HRw.out.dom .st trivial).2 (HRw.out.dom .slots trivial).2 (HRw.out.dom .long trivial).2 (.mapIter (some (A (.Wm i))) (bitsOf (E.sp i).wr).length (seen.push e.born) (bitsOf (E.sp i).wr).length))
              have hfr : decrS (E.sp i).wr seen S.wtr j = S.wtr j := by simp [decrS, hit_fresh hj hs2]
              have hmx : mem A E { { ended1 S i with rdr := decr (E.sp i).rd S.rdr } with wtr := decrS (E.sp i).wr seen S.wtr } .xs (j * 3 + 2) = some (.int .i64 (S.wtr j)) := by
                have e1 : (j * 3 + 2) / 3 = j := by omega
                have e2 : (j * 3 + 2) % 3 = 2 := by omega
                simp only [mem, e1, e2, hfr]
                rw [if_pos (by omega)]
                simp
              have cx := ((HRw.out.alloc (.mapIter (some (A (.Wm i))) (bitsOf (E.sp i).wr).length (seen.push e.born) (bitsOf (E.sp i).wr).length)).cell .xs (j * 3 + 2) _ hmx).2
              obtain ⟨cx, fx⟩ := cx
              have fx0 := (HRw.out.cell .xs (j * 3 + 2) _ hmx).2.2
              have c131 := ((HRw.out.alloc (.mapIter (some (A (.Wm i))) (bitsOf (E.sp i).wr).length (seen.push e.born) (bitsOf (E.sp i).wr).length)).cell .st 131 (.slice (some ⟨A .xs, 0, none⟩) 4 E.xcap) (by simp [mem, stC])).2.1
              clear hrun hkey hval hee
              go_wp2_with (go_at_call 33; refine (find_nm j hj4 _ _ _ _ _ HT.out).mono ?_; rintro e' w' ⟨rfl, rfl⟩)
              go_roundw
              case rel =>
                refine ⟨w2.setCell ⟨A .xs, j * 3 + 2, none⟩ (.int .i64 (wrap64 (S.wtr j - 1))), seen.push e.born, setCell_alloc _ _ hsx, by simpa using hsz2, ?_, ?_⟩
                · exact (HRw.out.setCell hmx (by rfl) _).mono (mem_wtr E ({ ended1 S i with rdr := decr (E.sp i).rd S.rdr }) (E.sp i).wr e.born j seen S.wtr hj) (fun _ _ h => h)
                · exact HCw.out.same (Chg.setCell (A := A) (D := (dom E (ended1 S i))) (r := .xs) trivial _ _)
              case measure =>
                have hz : (w2.setCell ⟨A .xs, j * 3 + 2, none⟩ (.int .i64 (wrap64 (S.wtr j - 1)))).heap.size = Xna.heap.size := by simpa using hsz2
                rw [setCell_alloc _ _ hsx, ← hz, World.iterSeen_alloc, hz, ← hsz, World.iterSeen_alloc]
                exact left_shrinks _ seen e hel
      · obtain ⟨j, hj, hee⟩ := set_mem (mem_left hel).1
        have hj4 : j < 4 := ((bits_mem _ j).1 (List.mem_of_getElem? hj)).1
        have hkey : e.key = .string (nm j) := by rw [hee]
        have hval : e.val = .bool true := by rw [hee]
        have hs2 := (mem_left hel).2
        have HRw := hid (HR1.out.alike hal)
        have HCw := hid (HC1.out.same (Chg.alike (A := A) (D := (dom E (ended1 S i))) hal))
        have hsz2 : w2.heap.size = X.heap.size := by rw [hal.1]; exact hsz
        have hen := run_entry_map (P := Yba.prog) w2 (A (.Rm i)) (bitsOf (E.sp i).rd).length seen (setEnts (E.sp i).rd) (bitsOf (E.sp i).rd).length e (HRw.out.obj (.Rm i) _ oeq).2 (mem_left hel).1 (set_borns _)
        rw [hkey, hval] at hrun hen
        rw [hsz2] at hen
        have hnx : ∀ ty, (Instr.next (.pointer (some ⟨X.heap.size, 0, none⟩)) false ty).run Yba.prog (w1.alloc (.mapIter (some (A (.Rm i))) (bitsOf (E.sp i).rd).length seen (bitsOf (E.sp i).rd).length)) = _ := fun _ => hrun
        have hsx : A .xs < w2.heap.size := (HRw.out.dom .xs trivial).2
        have HT := hid ((tabAt_of HRw.out rfl).alloc (HRw.out.dom .st trivial).2 (HRw.out.dom .slots trivial).2 (HRw.out.dom .long trivial).2 (.mapIter (some (A (.Rm i))) (bitsOf (E.sp i).rd).length (seen.push e.born) (bitsOf (E.sp i).rd).length))
        have hfr : decrS (E.sp i).rd seen S.rdr j = S.rdr j := by simp [decrS, hit_fresh hj hs2]
        have hmx : mem A E { ended1 S i with rdr := decrS (E.sp i).rd seen S.rdr } .xs (j * 3 + 1) = some (.int .i64 (S.rdr j)) := by
          have e1 : (j * 3 + 1) / 3 = j := by omega
          have e2 : (j * 3 + 1) % 3 = 1 := by omega
          simp only [mem, e1, e2, hfr]
          rw [if_pos (by omega)]
          simp
        have cx := ((HRw.out.alloc (.mapIter (some (A (.Rm i))) (bitsOf (E.sp i).rd).length (seen.push e.born) (bitsOf (E.sp i).rd).length)).cell .xs (j * 3 + 1) _ hmx).2
        obtain ⟨cx, fx⟩ := cx
        have fx0 := (HRw.out.cell .xs (j * 3 + 1) _ hmx).2.2
        have c131 := ((HRw.out.alloc (.mapIter (some (A (.Rm i))) (bitsOf (E.sp i).rd).length (seen.push e.born) (bitsOf (E.sp i).rd).length)).cell .st 131 (.slice (some ⟨A .xs, 0, none⟩) 4 E.xcap) (by simp [mem, stC])).2.1
        clear hrun hkey hval hee
        go_wp2_with (go_at_call 33; refine (find_nm j hj4 _ _ _ _ _ HT.out).mono ?_; rintro e' w' ⟨rfl, rfl⟩)
        go_roundw
        case rel =>
          refine ⟨w2.setCell ⟨A .xs, j * 3 + 1, none⟩ (.int .i64 (wrap64 (S.rdr j - 1))), seen.push e.born, setCell_alloc _ _ hsx, by simpa using hsz2, ?_, ?_⟩
          · exact (HRw.out.setCell hmx (by rfl) _).mono (mem_rdr E (ended1 S i) (E.sp i).rd e.born j seen S.rdr hj) (fun _ _ h => h)
          · exact HCw.out.same (Chg.setCell (A := A) (D := (dom E (ended1 S i))) (r := .xs) trivial _ _)
        case measure =>
          have hz : (w2.setCell ⟨A .xs, j * 3 + 1, none⟩ (.int .i64 (wrap64 (S.rdr j - 1)))).heap.size = X.heap.size := by simpa using hsz2
          rw [setCell_alloc _ _ hsx, ← hz, World.iterSeen_alloc, hz, ← hsz, World.iterSeen_alloc]
          exact left_shrinks _ seen e hel
end Go.Proofs.Ybulkedxc
