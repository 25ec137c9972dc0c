/-
  LawS6515BWhole: statement 37: a round's body.
-/
import Derived.Test.YbulkedxcX2
import Derived.Test.YbulkedxcX3
import Derived.Test.YbulkedxcX5
namespace Go.Proofs.Ybulkedxc
open Go.RowKit
attribute [local simp] setO_size setT_same
set_option linter.unusedSimpArgs false
set_option linter.unusedVariables false
set_option linter.unnecessarySimpa false

theorem cutc (c : Code) (n : Nat) (h : isSeq c n = true) {Q : Exit → Act → World → Prop} {a : Act} {w : World} (hh : ∀ r, (∀ a w, (tail c n).wp Yba.prog Q a w → r.wp Yba.prog Q a w) → (upTo c n r).wp Yba.prog Q a w) : c.wp Yba.prog Q a w := by
  have := hh (tail c n) (fun a w h => h)
  rw [upTo_tail c n h] at this
  exact this

theorem assert_err (a : Addr) (w : World) : (Instr.typeAssert (.iface 136 (.pointer (some a))) 98 136 true).run Yba.prog w = .ok (.tuple #[.pointer (some a), .bool true]) w := by kernel_rfl
theorem eql_ptr_no (t : TypeId) (d : TypeId) (h : Yba.prog.underlying t = some (.pointer d)) (a : Addr) (w : World) : (binOp .eql t (.pointer (some a)) (.pointer none)).run Yba.prog w = .ok (.bool false) w := by
  simp [go_sem, h]

set_option maxRecDepth 100000 in
set_option maxHeartbeats 3200000 in
theorem rest9 (D : Inp) (V : Var) (A : Role → Nat) (S : Sys) (lx : List Int) (cv : Value) (cap xcap : Nat) (ib : Nat → Nat) (nv nv2 cy2 : Value) (ob k : Nat) (ev : Value) (w0 W w : World) (f : Nat → Value) (Q : Exit → Act → World → Prop) (hD : InpAt D w0) (hon : D.on ≤ 1024) (hk : k < D.on + 1) (ha : Aft D V A S lx cv xcap ib nv nv2 cy2 ob w0 W) (hb : Below W.heap.size W w) (hev : Ev D W.heap.size ev k w) (sl : SlB D V A cap nv nv2 cy2 ob k ev f) (he : ends D k = true) (hQ : ∀ a w, M9 D V A cap nv nv2 cy2 ob k W a w → Q .normal a w) :
    (tail (down (fst_ (snd_ (down (down (snd_ (fst_ (tail (Yba.f3.body.getD .skip) 37)))))))) 4).wp Yba.prog Q ⟨frm f, []⟩ w := by
  have fin : ∀ f', SlB D V A cap nv nv2 cy2 ob k ev f' → f' 60 = ptr (A (.Ae k)) → (tail (down (fst_ (snd_ (down (down (snd_ (fst_ (tail (Yba.f3.body.getD .skip) 37)))))))) 8).wp Yba.prog Q ⟨frm f', []⟩ w := by
    intro f' sl' h60
    show (Code.seq _ _).wp Yba.prog Q _ _
    refine seq_piece (M := M131 D V A cap nv nv2 cy2 ob k ev W) ?_ ?_
    · by_cases hk0 : k = 0
      · exact piece131a D V A S lx cv cap xcap ib nv nv2 cy2 ob k ev w0 W w f' hD hon hk ha hb hev sl' h60 he hk0
      · exact piece131b D V A S lx cv cap xcap ib nv nv2 cy2 ob k ev w0 W w f' hD hon hk ha hb hev sl' h60 he hk0
    · rintro a w2 ⟨f2, rfl, sl2, h602, hev2, hb2⟩
      exact run_piece (piece150 D V A S lx cv cap xcap ib nv nv2 cy2 ob k ev w0 W w2 f2 hon hk ha hb2 hev2 sl2 h602 he) hQ
  have hki : (k : Int) < (D.on : Int) + 1 := by omega
  have hkp : (0 : Int) ≤ (k : Int) := by omega
  have ze : w.cell? ⟨V.en, k, none⟩ = some (.bool true) := by
    obtain ⟨cs, h1, _, h2, _⟩ := ha.arr.en
    rw [hb.cell (p := ⟨V.en, k, none⟩) (Array.getElem?_eq_some_iff.1 h1).1, cell_of h1, h2 k hk, he]
  have u2 : w.cell? ⟨A (.U k), 2, none⟩ = some (.iface 136 (.pointer (some ⟨A (.Ae k), 0, none⟩))) := by
    refine ha.uAt hb k hk 2 _ ?_
    show some (cond (S.en k) (errOf A k) .nilIface) = _
    rw [ha.en k hk, he]
    rfl
  have z110 : w.cell? ⟨A .st, 110, none⟩ = some (.map (some (A .live))) := ha.at_ hb .st 110 _ rfl
  have a0 : w.cell? ⟨A (.Ae k), 0, none⟩ = some (.int .i64 ((k : Int) + 1)) := ha.aAt hb k hk he 0 _ rfl
  have hlk := ha.live_miss k hk he w hb
  have t1 := assert_err
  have n1 := eql_ptr_no 136 139 Yba.underlying136
  have HFIN := hid fin
  have HS := hid sl
  refine cutc _ 4 (by kernel_rfl) ?_
  intro r hr
  have HR := hid hr
  show (Code.seq _ (Code.seq _ (Code.seq _ (Code.seq _ r)))).wp Yba.prog Q _ _
  unfold frm
  rw [sl.sl.sl.s18, sl.sl.sl.s26, sl.s54, sl.s55, sl.s56]
  unfold ptr
  clear fin hr ha hb hev sl hQ hD
  go_wp2_with fail
  refine HR.out _ _ ?_
  refine in_frm9 (M := fun a w => (tail (tail (down (fst_ (snd_ (down (down (snd_ (fst_ (tail (Yba.f3.body.getD .skip) 37)))))))) 4) 4).wp Yba.prog Q a w) _ (by rfl) ?_
  intro f' hf'
  show (tail (tail (down (fst_ (snd_ (down (down (snd_ (fst_ (tail (Yba.f3.body.getD .skip) 37)))))))) 4) 4).wp Yba.prog Q ⟨frm f', []⟩ w
  rw [tail_tail _ 4 4 (by kernel_rfl)]
  refine HFIN.out f' (HS.out.of (fun i hi => ?_)) (hf' 60)
  simp [slL] at hi
  rcases hi with rfl | rfl | rfl | rfl | rfl | rfl | rfl | rfl | rfl | rfl | rfl | rfl | rfl | rfl | rfl | rfl | rfl | rfl | rfl | rfl | rfl | rfl | rfl | rfl | rfl | rfl | rfl <;> first | exact hf' _ | exact (hf' 18).trans HS.out.sl.sl.s18.symm | exact (hf' 26).trans HS.out.sl.sl.s26.symm | exact (hf' 54).trans HS.out.s54.symm | exact (hf' 55).trans HS.out.s55.symm | exact (hf' 56).trans HS.out.s56.symm

set_option maxRecDepth 100000 in
set_option maxHeartbeats 3200000 in
theorem body9 (D : Inp) (V : Var) (A : Role → Nat) (S : Sys) (lx : List Int) (cv : Value) (cap xcap : Nat) (ib : Nat → Nat) (nv nv2 cy2 : Value) (ob k : Nat) (ev : Value) (w0 W w : World) (f : Nat → Value) (Q : Exit → Act → World → Prop) (hD : InpAt D w0) (hon : D.on ≤ 1024) (hk : k < D.on + 1) (ha : Aft D V A S lx cv xcap ib nv nv2 cy2 ob w0 W) (hb : Below W.heap.size W w) (hev : Ev D W.heap.size ev k w) (sl : Sl3 D V A cap nv nv2 cy2 ob f) (s51 : f 51 = .int .i64 (nlv D k : Nat)) (s52 : f 52 = .int .i64 (nwt D k : Nat)) (s53 : f 53 = ev) (s54 : f 54 = .int .i64 k) (hQ : ∀ a w, M9 D V A cap nv nv2 cy2 ob k W a w → Q .normal a w) (hQe : ∀ a w, M9 D V A cap nv nv2 cy2 ob k W a w → Q (.exit 17) a w) :
    (down (fst_ (snd_ (down (down (snd_ (fst_ (tail (Yba.f3.body.getD .skip) 37)))))))).wp Yba.prog Q ⟨frm f, []⟩ w := by
  have fin : ∀ f', SlB D V A cap nv nv2 cy2 ob k ev f' → (tail (down (fst_ (snd_ (down (down (snd_ (fst_ (tail (Yba.f3.body.getD .skip) 37)))))))) 4).wp Yba.prog Q ⟨frm f', []⟩ w := by
    intro f' sl'
    cases he : ends D k
    · show (Code.seq _ _).wp Yba.prog Q _ _
      exact wp_seq (piece117 D V A S lx cv cap xcap ib nv nv2 cy2 ob k ev w0 W w f' _ hon hk ha hb hev sl' he hQe)
    · exact rest9 D V A S lx cv cap xcap ib nv nv2 cy2 ob k ev w0 W w f' Q hD hon hk ha hb hev sl' he hQ
  have hki : (k : Int) < (D.on : Int) + 1 := by omega
  have hkp : (0 : Int) ≤ (k : Int) := by omega
  have zt := ha.tx hb k hk
  have zw := ha.wt hb k hk
  have u6 : w.cell? ⟨A (.U k), 6, none⟩ = some (.int .i32 0) := ha.uAt hb k hk 6 _ rfl
  have u7 : w.cell? ⟨A (.U k), 7, none⟩ = some (.int .i32 0) := ha.uAt hb k hk 7 _ rfl
  have n1 := neq_102
  obtain ⟨wv, hwv⟩ : ∃ o : Option Addr, cond (D.sp k).wait (ptr (A (.Wt k))) (.pointer none) = .pointer o := by
    cases (D.sp k).wait
    · exact ⟨none, rfl⟩
    · exact ⟨some _, rfl⟩
  rw [hwv] at zw
  have HW := hid hwv
  have HFIN := hid fin
  have HS := hid sl
  have H5 := hid (And.intro s51 (And.intro s52 s53))
  refine cutc _ 4 (by kernel_rfl) ?_
  intro r hr
  have HR := hid hr
  show (Code.seq _ (Code.seq _ (Code.seq _ (Code.seq _ r)))).wp Yba.prog Q _ _
  unfold frm
  rw [sl.sl.s24, sl.sl.s25, s54]
  unfold ptr at zt
  clear fin hr ha hb hev sl hQ hQe hD s51 s52 s53 hwv
  go_wp2_with fail
  refine HR.out _ _ ?_
  refine in_frm9 (M := fun a w => (tail (down (fst_ (snd_ (down (down (snd_ (fst_ (tail (Yba.f3.body.getD .skip) 37)))))))) 4).wp Yba.prog Q a w) _ (by rfl) ?_
  intro f' hf'
  refine HFIN.out f' ⟨HS.out.of (fun i hi => ?_), (hf' 51).trans H5.out.1, (hf' 52).trans H5.out.2.1, (hf' 53).trans H5.out.2.2, hf' 54, hf' 55, hf' 56, (hf' 57).trans HW.out.symm⟩
  simp at hi
  rcases hi with rfl | rfl | rfl | rfl | rfl | rfl | rfl | rfl | rfl | rfl | rfl | rfl | rfl | rfl | rfl | rfl | rfl | rfl | rfl | rfl <;> first | exact hf' _ | exact (hf' 24).trans HS.out.sl.s24.symm | exact (hf' 25).trans HS.out.sl.s25.symm
end Go.Proofs.Ybulkedxc
