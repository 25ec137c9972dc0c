/-
  LawS6515BWhole: statement 8: the items' readers and writers.
-/
import Derived.Test.YbulkedxcS7
namespace Go.Proofs.Ybulkedxc
open Go.RowKit
attribute [local simp] setO_size setT_same
set_option linter.unusedSimpArgs false
set_option linter.unusedVariables false
set_option linter.unnecessarySimpa false

/-- the table and the items, the first k with their readers and writers -/
structure Tab (D : Inp) (L : Loc) (N s l g cap k : Nat) (zs cs : Array Value) (w : World) : Prop where
  t127 : w.cell? ⟨L.st, 127, none⟩ = some (.slice (some ⟨s, 0, none⟩) 64 64)
  t129 : w.cell? ⟨L.st, 129, none⟩ = some (.map (some l))
  t131 : w.cell? ⟨L.st, 131, none⟩ = some (.slice (some ⟨g, 0, none⟩) 4 cap)
  fr : ∀ k, w.frozen? ⟨L.st, k, none⟩ = false
  sN : N ≤ s
  sH : w.heap[s]? = some (.cells zs 160 (0, 0))
  zin : ∀ i, i < 3 → zs[sx i * 3]? = some (.int .u64 (120 + i)) ∧ zs[sx i * 3 + 1]? = some (.int .i32 (i + 1)) ∧ zs[sx i * 3 + 2]? = some (.int .u8 1)
  lN : N ≤ l
  lH : w.heap[l]? = some (.map #[{ key := .string (nm 3), val := .int .i32 3, born := 0 }] 1)
  gN : N ≤ g
  gH : w.heap[g]? = some (.cells cs 92 (0, 0))
  cin : ∀ j, j < 4 → cs[j * 3]? = some (.string (nm j)) ∧ cs[j * 3 + 1]? = some (.int .i64 (cond (decide (j < k)) (D.rd j) 0)) ∧ cs[j * 3 + 2]? = some (.int .i64 (cond (decide (j < k)) (D.wr j) 0))
  sl : s ≠ l
  sg : s ≠ g
  lg : l ≠ g

theorem ItS.tab {D : Inp} {L : Loc} {N B s l : Nat} {xv : Value} {zs : Array Value} {W : World} (h : ItS N B L.st s l xv zs W 4 4) : ∃ g cap cs, xv = .slice (some ⟨g, 0, none⟩) 4 cap ∧ Tab D L N s l g cap 0 zs cs W := by
  obtain ⟨s1, s2, s3, s4⟩ := h.hs (by omega)
  obtain ⟨l1, l2, l3, l4, l5⟩ := h.hl rfl
  have hown := h.own
  obtain ⟨h1, h2⟩ := hown
  rcases h2 with ⟨h3, h4⟩ | ⟨g, cap, cur, rfl, hg, hheap, hnc, hm, hsz, htk⟩
  · simp at h4
  · have hc : ∀ i, i < 12 → cur[i]? = (rowsOf 4)[i]? := by
      intro i hi
      rw [← htk, List.getElem?_take_of_lt (by omega)]
      simp
    refine ⟨g, cap, cur, rfl, h.c127, h.c129, h.c131, h.fr, s1, s3, h.zin (by omega) |> fun z i hi => z i hi (by omega), l1, l5, hg, hheap, ?_, Ne.symm l3, ?_, ?_⟩
    · intro j hj
      match j, hj with
      | 0, _ => exact ⟨hc 0 (by omega), hc 1 (by omega), hc 2 (by omega)⟩
      | 1, _ => exact ⟨hc 3 (by omega), hc 4 (by omega), hc 5 (by omega)⟩
      | 2, _ => exact ⟨hc 6 (by omega), hc 7 (by omega), hc 8 (by omega)⟩
      | 3, _ => exact ⟨hc 9 (by omega), hc 10 (by omega), hc 11 (by omega)⟩
    · intro e; subst e; exact s4 rfl
    · intro e; subst e; exact l4 rfl

theorem Tab.next {D : Inp} {L : Loc} {N B s l g cap k : Nat} {zs cs : Array Value} {w w' : World} (h : Tab D L N s l g cap k zs cs w) (ho : L.Ord B N) (hk : k < 4) (hh : w'.heap = ((w.setCell ⟨g, k * 3 + 1, none⟩ (.int .i64 (D.rd k))).setCell ⟨g, k * 3 + 2, none⟩ (.int .i64 (D.wr k))).heap) :
    ∃ cs', Tab D L N s l g cap (k + 1) zs cs' w' ∧ (∀ b, b ≠ g → w'.heap[b]? = w.heap[b]?) ∧ w'.heap.size = w.heap.size := by
  have hb : ∀ b, b ≠ g → w'.heap[b]? = w.heap[b]? := fun b e => by rw [hh, heap_setCell_ne _ e, heap_setCell_ne _ e]
  have hsz : w'.heap.size = w.heap.size := by rw [hh]; simp
  have hst : L.st ≠ g := by have := ho.h11; have := ho.h12; have := h.gN; omega
  have hc : ∀ k, w'.cell? ⟨L.st, k, none⟩ = w.cell? ⟨L.st, k, none⟩ := fun k => by simp [World.cell?, hb _ hst]
  have hf : ∀ k, w'.frozen? ⟨L.st, k, none⟩ = w.frozen? ⟨L.st, k, none⟩ := fun k => by simp [World.frozen?, hb _ hst]
  have hg := heap_setCell_at (i := k * 3 + 2) (.int .i64 (D.wr k)) (heap_setCell_at (i := k * 3 + 1) (.int .i64 (D.rd k)) h.gH)
  rw [← hh] at hg
  refine ⟨_, ⟨(hc _).trans h.t127, (hc _).trans h.t129, (hc _).trans h.t131, fun k => (hf k).trans (h.fr k), h.sN, (hb s h.sg).trans h.sH, h.zin, h.lN, (hb l h.lg).trans h.lH, h.gN, hg, ?_, h.sl, h.sg, h.lg⟩, hb, hsz⟩
  intro j hj
  obtain ⟨z0, z1, z2⟩ := h.cin j hj
  obtain ⟨y0, y1, y2⟩ := h.cin k hk
  have l1 := (Array.getElem?_eq_some_iff.1 y1).1
  have l2 := (Array.getElem?_eq_some_iff.1 y2).1
  refine ⟨?_, ?_, ?_⟩
  · rw [Array.getElem?_setIfInBounds_ne (by omega), Array.getElem?_setIfInBounds_ne (by omega)]; exact z0
  · rw [Array.getElem?_setIfInBounds_ne (by omega)]
    by_cases e : j = k
    · subst e
      rw [Array.getElem?_setIfInBounds_self_of_lt l1]
      simp
    · rw [Array.getElem?_setIfInBounds_ne (by omega), z1]
      have : decide (j < k + 1) = decide (j < k) := by simp; omega
      rw [this]
  · by_cases e : j = k
    · subst e
      rw [Array.getElem?_setIfInBounds_self_of_lt (by simpa using l2)]
      simp
    · rw [Array.getElem?_setIfInBounds_ne (by omega), Array.getElem?_setIfInBounds_ne (by omega), z2]
      have : decide (j < k + 1) = decide (j < k) := by simp; omega
      rw [this]

theorem xsA_four (k : Nat) (hk : k < 4) : (xsA 4)[k]? = some (.int .i32 k) := by
  match k, hk with
  | 0, _ => rfl
  | 1, _ => rfl
  | 2, _ => rfl
  | 3, _ => rfl
theorem four_get (q : Nat → Int) (k : Nat) (hk : k < 4) : (four q)[k]? = some (.int .i64 (q k)) := by
  match k, hk with
  | 0, _ => rfl
  | 1, _ => rfl
  | 2, _ => rfl
  | 3, _ => rfl

set_option maxRecDepth 100000 in
set_option maxHeartbeats 3200000 in
theorem sec8 (D : Inp) (L : Loc) (w0 w : World) (N s l g cap : Nat) (zs cs0 : Array Value) (Q : Exit → Act → World → Prop) (f : Nat → Value) (sl : Sl D L f) (hpre : Pre D L w) (ho : L.Ord w0.heap.size N) (hit : Tab D L N s l g cap 0 zs cs0 w) (hx : w.heap[L.b19]? = some (.cells (xsA 4) 89 (0, 0))) (hold : Old w0.heap.size w0 w)
    (h : ∀ f' w' cs, Sl D L f' → Pre D L w' → Tab D L N s l g cap 4 zs cs w' → w'.heap[L.b19]? = some (.cells (xsA 4) 89 (0, 0)) → Old w0.heap.size w0 w' → WpT 9 Q f' w') : WpT 8 Q f w := by
  have HH := hid h
  clear h
  refine sect 8 1 (by kernel_rfl) (by kernel_rfl) ?_
  intro r hr
  have HR := hid hr
  clear hr
  show (Code.seq _ r).wp Yba.prog Q _ _
  have HP := hid (show Pre D L w ∧ Tab D L N s l g cap 0 zs cs0 w ∧ w.heap[L.b19]? = some (.cells (xsA 4) 89 (0, 0)) ∧ Old w0.heap.size w0 w from ⟨hpre, hit, hx, hold⟩)
  clear hpre hit hx hold
  unfold frm
  obtain ⟨I, hI⟩ : ∃ I : Act → World → Prop, I = fun a w => ∃ (f : Nat → Value) (k : Nat) (cs : Array Value), a = ⟨frm f, []⟩ ∧ Sl D L f ∧ f 21 = .int .i64 k ∧ k ≤ 4 ∧ Pre D L w ∧ Tab D L N s l g cap k zs cs w ∧ w.heap[L.b19]? = some (.cells (xsA 4) 89 (0, 0)) ∧ Old w0.heap.size w0 w := ⟨_, rfl⟩
  obtain ⟨M, hM⟩ : ∃ M : Act → World → Nat, M = fun a _ => 4 - (intOf (nth a.tmps.toList 21)).toNat := ⟨_, rfl⟩
  have HI := hid hI
  have HM := hid hM
  clear hI hM
  go_wp2_with fail
  refine wp_loop I M ?_ ?_
  · rw [HI.out]
    refine ⟨nth (Array.toList _), 0, _, congrArg (fun x => Act.mk x []) (frm_of _ ?_).symm, ⟨sl.s1, sl.s3, sl.s7, sl.s9, sl.s11, sl.s12, sl.s13, sl.s15, sl.s16, sl.s17, sl.s18, sl.s19⟩, rfl, by omega, HP.out.1, HP.out.2.1, HP.out.2.2.1, HP.out.2.2.2⟩
    rfl
  · intro a1 w1 h1
    rw [HI.out] at h1
    obtain ⟨f1, k, cs, rfl, sl1, e21, hk, hpre, hit, hx, hold⟩ := h1
    unfold frm
    rw [e21, sl1.s12, sl1.s13, sl1.s18, sl1.s19]
    unfold ptr
    by_cases hlt : k < 4
    · have hki : (k : Int) < 4 := by omega
      have hkp : (0 : Int) ≤ (k : Int) := by omega
      have hgN := hit.gN
      have e1 : ¬ L.st = g := by have := ho.h11; have := ho.h12; omega
      have e2 : ¬ L.b19 = g := by have := ho.h12; omega
      have hb13 : L.b13 < N := by have := ho.h5; have := ho.h6; have := ho.h7; have := ho.h8; have := ho.h9; have := ho.h10; have := ho.h11; have := ho.h12; omega
      have e3 : ¬ L.b13 = g := by omega
      have e4 : ¬ L.b12 = g := by have := ho.h4; omega
      have e1' : ¬ g = L.st := fun e => e1 e.symm
      have e2' : ¬ g = L.b19 := fun e => e2 e.symm
      have e3' : ¬ g = L.b13 := fun e => e3 e.symm
      have e4' : ¬ g = L.b12 := fun e => e4 e.symm
      have c131 := hit.t131
      have cx : w1.cell? ⟨L.b19, k, none⟩ = some (.int .i32 k) := by simp [World.cell?, hx, xsA_four k hlt]
      have cr : w1.cell? ⟨L.b12, k, none⟩ = some (.int .i64 (D.rd k)) := by simp [World.cell?, hpre.b12, four_get _ k hlt]
      have cw : w1.cell? ⟨L.b13, k, none⟩ = some (.int .i64 (D.wr k)) := by simp [World.cell?, hpre.b13, four_get _ k hlt]
      obtain ⟨y0, y1, y2⟩ := hit.cin k hlt
      have g1 : w1.cell? ⟨g, k * 3 + 1, none⟩ = some (.int .i64 (cond (decide (k < k)) (D.rd k) 0)) := by simp [World.cell?, hit.gH, y1]
      have g2 : w1.cell? ⟨g, k * 3 + 2, none⟩ = some (.int .i64 (cond (decide (k < k)) (D.wr k) 0)) := by simp [World.cell?, hit.gH, y2]
      have f1 : ∀ q, w1.frozen? ⟨g, q, none⟩ = false := fun q => by simp [World.frozen?, hit.gH]
      clear y0 y1 y2
      have HP := hid hpre
      have HT := hid hit
      have HX := hid hx
      have HO := hid hold
      clear hpre hit hx hold
      go_wp2_with fail
      go_region_held3 (fun w' => w'.cell? ⟨L.st, 131, none⟩ = some (.slice (some ⟨g, 0, none⟩) 4 cap) ∧ w'.cell? ⟨L.b19, k, none⟩ = some (.int .i32 k) ∧ w'.cell? ⟨L.b12, k, none⟩ = some (.int .i64 (D.rd k))) (go_keep) (fail)
      go_wp2_with fail
      go_region_held3 (fun w' => w'.cell? ⟨L.st, 131, none⟩ = some (.slice (some ⟨g, 0, none⟩) 4 cap) ∧ w'.cell? ⟨L.b19, k, none⟩ = some (.int .i32 k) ∧ w'.cell? ⟨L.b13, k, none⟩ = some (.int .i64 (D.wr k))) (go_keep) (fail)
      go_wp2_with fail
      rw [HI.out, HM.out]
      obtain ⟨cs', ht', hb', hz'⟩ := HT.out.next (w' := ((w1.setCell ⟨g, k * 3 + 1, none⟩ (.int .i64 (D.rd k))).setCell ⟨g, k * 3 + 2, none⟩ (.int .i64 (D.wr k))).drew.drew) ho hlt rfl
      refine ⟨⟨nth (Array.toList _), k + 1, cs', congrArg (fun x => Act.mk x []) (frm_of _ ?_).symm, ⟨sl1.s1, sl1.s3, sl1.s7, sl1.s9, sl1.s11, rfl, rfl, sl1.s15, sl1.s16, sl1.s17, rfl, rfl⟩, ?_, by omega, ?_, ht', (hb' _ e2).trans HX.out, ?_⟩, ?_⟩
      · rfl
      · show Value.int _ _ = _
        go_num
      · have := ho.h11
        have := ho.h12
        refine HP.out.keep ho (fun b hb => hb' b (by omega)) (fun c hc => ?_)
        simp only [World.cell?, hb' L.st e1]
      · have : w0.heap.size ≤ L.st := by have := ho.h0; have := ho.h1; have := ho.h2; have := ho.h3; have := ho.h4; have := ho.h5; have := ho.h6; have := ho.h7; have := ho.h8; have := ho.h9; have := ho.h10; omega
        have := ho.h11
        have := ho.h12
        exact HO.out.trans ⟨rfl, rfl, by rw [hz']; omega, fun b hb => hb' b (by omega)⟩
      · simp [nth, intOf]
        omega
    · have : k = 4 := by omega
      subst this
      go_wp2_with fail
      refine leave HR _ (by rfl) ?_
      intro f' hf'
      exact HH.out f' w1 cs ⟨(hf' 1).trans sl1.s1, (hf' 3).trans sl1.s3, (hf' 7).trans sl1.s7, (hf' 9).trans sl1.s9, (hf' 11).trans sl1.s11, hf' 12, hf' 13, (hf' 15).trans sl1.s15, (hf' 16).trans sl1.s16, (hf' 17).trans sl1.s17, hf' 18, hf' 19⟩ hpre hit hx hold
end Go.Proofs.Ybulkedxc
