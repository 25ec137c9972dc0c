/-
  LawS6515BWhole: statements 9 to 16.
-/
import Derived.Test.YbulkedxcVa
import Derived.Laws.AppendOwnNone
namespace Go.Proofs.Ybulkedxc
open Go.RowKit
attribute [local simp] setO_size setT_same
set_option linter.unusedSimpArgs false
set_option linter.unusedVariables false
set_option linter.unnecessarySimpa false

theorem info27 : (Yba.prog.info? 27).map (fun i => (i.zero, i.size, i.bytes)) = some (some (.agg #[.bool false, .bool false, .bool false, .bool false, .bool false, .int .u8 0, .int .u8 0]), 7, 7) := by kernel_rfl
theorem info96 : (Yba.prog.info? 96).map (fun i => (i.zero, i.size, i.bytes)) = some (some (.pointer none), 1, 8) := by kernel_rfl
theorem info99 : (Yba.prog.info? 99).map (fun i => (i.zero, i.size, i.bytes)) = some (some (.pointer none), 1, 8) := by kernel_rfl
theorem info4 : (Yba.prog.info? 4).map (fun i => (i.zero, i.size, i.bytes)) = some (some (.bool false), 1, 1) := by kernel_rfl

theorem made_one (z : Value) (hz : z.cells = #[z]) (n i : Nat) (hi : i < n) : (madeCells z.cells n)[i]? = some z := by
  unfold madeCells
  rw [Array.getElem?_map, Array.getElem?_range, if_pos hi, hz]
  simp [Nat.mod_one]

/-- make([]T, n) of one-cell elements -/
theorem make_one (t e : TypeId) (z : Value) (by_ : Nat) (ht : Yba.prog.underlying t = some (.slice e)) (hi : (Yba.prog.info? e).map (fun i => (i.zero, i.size, i.bytes)) = some (some z, 1, by_)) (hz : z.cells = #[z]) (hb : by_ ≤ 8) (n : Nat) (hn : n ≤ 1048576) :
    ∃ cs : Array Value, cs.size = n + 1 ∧ (∀ i, i < n + 1 → cs[i]? = some z) ∧ ∀ w, (Instr.makeSlice t (.int .i64 ((n : Int) + 1)) (.int .i64 ((n : Int) + 1))).run Yba.prog w = .ok (.slice (some ⟨w.heap.size, 0, none⟩) (n + 1) (n + 1)) (w.alloc (.cells cs e)) := by
  obtain ⟨i0, hi, hz0, hz1, hz2⟩ := info_parts hi
  have hq : ((n : Int) + 1).toNat = n + 1 := by omega
  refine ⟨madeCells z.cells (n + 1), size_madeCells _ _, fun i h => made_one z hz _ i h, fun w => ?_⟩
  have hbb : (by_ : Int) * ((n : Int) + 1) ≤ 281474976710656 := by
    have h1 : (by_ : Int) ≤ 8 := by omega
    have h2 : (by_ : Int) * ((n : Int) + 1) ≤ 8 * ((n : Int) + 1) := Int.mul_le_mul_of_nonneg_right h1 (by omega)
    omega
  have h := run_make (P := Yba.prog) w t e i0 z ht hi hz0 .i64 .i64 ((n : Int) + 1) ((n : Int) + 1) (by omega) (by omega) (by rw [hz2]; exact hbb) (by omega)
  rw [hq, hz1, Nat.mul_one] at h
  exact h

/-- the cells of the others -/
def othC (D : Inp) : List Value := (List.range D.on).flatMap fun i => (spA (D.sp (i + 1))).toList
theorem flat7 (F : Nat → List Value) (hF : ∀ i, (F i).length = 7) : ∀ n i j, i < n → j < 7 → ((List.range n).flatMap F)[i * 7 + j]? = (F i)[j]?
  | 0, _, _, h, _ => by omega
  | n + 1, i, j, h, hj => by
    have hl : ((List.range n).flatMap F).length = n * 7 := by
      rw [List.length_flatMap]
      have : (List.range n).map (fun a => (F a).length) = List.replicate n 7 := by
        rw [List.eq_replicate_iff]
        refine ⟨by simp, ?_⟩
        intro b hb
        simp at hb
        obtain ⟨a, _, rfl⟩ := hb
        exact hF a
      rw [this]
      simp
    rw [List.range_succ, List.flatMap_append]
    by_cases e : i = n
    · subst e
      rw [List.getElem?_append_right (by omega), hl]
      simp
    · rw [List.getElem?_append_left (by omega)]
      exact flat7 F hF n i j (by omega) hj
theorem flat7_len (F : Nat → List Value) (hF : ∀ i, (F i).length = 7) (n : Nat) : ((List.range n).flatMap F).length = n * 7 := by
  rw [List.length_flatMap]
  have : (List.range n).map (fun a => (F a).length) = List.replicate n 7 := by
    rw [List.eq_replicate_iff]
    refine ⟨by simp, ?_⟩
    intro b hb
    simp at hb
    obtain ⟨a, _, rfl⟩ := hb
    exact hF a
  rw [this]
  simp
theorem othC_len (D : Inp) : (othC D).length = D.on * 7 := flat7_len _ (fun _ => rfl) _
theorem othC_get (D : Inp) (i j : Nat) (hi : i < D.on) (hj : j < 7) : (othC D)[i * 7 + j]? = (spA (D.sp (i + 1)))[j]? := by
  unfold othC
  rw [flat7 _ (fun _ => rfl) _ i j hi hj]
  simp
theorem othC_one (D : Inp) : ∀ u ∈ othC D, u.oneCell' = true := by
  intro u hu
  simp only [othC, List.mem_flatMap] at hu
  obtain ⟨i, _, hu⟩ := hu
  simp only [spA, List.mem_cons, List.not_mem_nil, or_false] at hu
  rcases hu with rfl | rfl | rfl | rfl | rfl | rfl | rfl <;> rfl

/-- the specs in a row -/
theorem specs_of (D : Inp) (w : World) (B g n cap : Nat) (xs : List Value) (hn : n = D.on + 1) (h : w.ownsRow B 27 7 (.slice (some ⟨g, 0, none⟩) n cap) n xs) (hx : xs = (spA (D.sp 0)).toList ++ othC D) :
    B ≤ g ∧ ∃ cs, w.heap[g]? = some (.cells cs 27 (0, 0)) ∧ ∀ i, i ≤ D.on → ∀ j v, (spA (D.sp i))[j]? = some v → cs[i * 7 + j]? = some v := by
  obtain ⟨h1, h2⟩ := h
  rcases h2 with ⟨h3, _⟩ | ⟨g', cap', cur, e, hg, hheap, hnc, hm, hsz, htk⟩
  · cases h3
  · cases e
    refine ⟨hg, cur, hheap, ?_⟩
    intro i hi j v hv
    have hj : j < 7 := (Array.getElem?_eq_some_iff.1 hv).1
    have hc : cur[i * 7 + j]? = xs[i * 7 + j]? := by
      rw [← htk, List.getElem?_take_of_lt (by omega)]
      simp
    rw [hc, hx]
    cases i with
    | zero =>
      rw [List.getElem?_append_left (by simpa [spA] using hj)]
      simpa using hv
    | succ i =>
      rw [List.getElem?_append_right (by simp [spA]; omega)]
      have : (i + 1) * 7 + j - (spA (D.sp 0)).toList.length = i * 7 + j := by simp [spA]; omega
      rw [this, othC_get D i j (by omega) hj]
      exact hv

theorem stop_ {P : Program} {ops : Array Oper} {Q : Exit → Act → World → Prop} {l : List Oper} {a : Act} {w : World} (h : Hid (wpList P ops Q l a w)) : wpList P ops Q l a w := h
theorem Hid.in_ {p : Prop} (h : p) : Hid p := h

set_option maxRecDepth 100000 in
set_option maxHeartbeats 3200000 in
theorem sec9 (D : Inp) (L : Loc) (w0 w : World) (N s l g cap : Nat) (zs cs : Array Value) (Q : Exit → Act → World → Prop) (f : Nat → Value) (hD : InpAt D w0) (hnil : D.oa = none → D.on = 0 ∧ D.oc = 0) (sl : Sl D L f) (hpre : Pre D L w) (ho : L.Ord w0.heap.size N) (hit : Tab D L N s l g cap 4 zs cs w) (hx : w.heap[L.b19]? = some (.cells (xsA 4) 89 (0, 0))) (hN : N ≤ w.heap.size) (hold : Old w0.heap.size w0 w)
    (h : ∀ f' w' V A cap', Sl2 D V A cap' f' → f' 27 = .int .i64 0 → Vars D V w' → Arr D V A 0 w' → Rep A (envOf D 0 (.slice none 0 0) cap) (sys0 D) [] w0.heap.size w' → Apart V A (envOf D 0 (.slice none 0 0) cap) (sys0 D) w0.heap.size → Old w0.heap.size w0 w' → WpT 17 Q f' w') : WpT 9 Q f w := by
  have HH := hid h
  have HD := hid hD
  have HP := hid (show Pre D L w ∧ Tab D L N s l g cap 4 zs cs w ∧ w.heap[L.b19]? = some (.cells (xsA 4) 89 (0, 0)) ∧ Old w0.heap.size w0 w from ⟨hpre, hit, hx, hold⟩)
  have hB : w0.heap.size ≤ w.heap.size := hold.size
  have hon := hD.onB
  have hon' : (D.on : Int) ≤ 1024 := by omega
  have hon0 : (0 : Int) ≤ (D.on : Int) := by omega
  have hb9 : L.b9 < w.heap.size := by have := ho.h2; have := ho.h3; have := ho.h4; have := ho.h5; have := ho.h6; have := ho.h7; have := ho.h8; have := ho.h9; have := ho.h10; have := ho.h11; have := ho.h12; omega
  obtain ⟨i0, hi, hz0, hz1, hz2⟩ := info_parts info27
  -- the first make
  obtain ⟨z1, hm1, hown1⟩ : ∃ z1 : Array Value, (Instr.makeSlice 28 (.int .i64 0) (.int .i64 ((D.on : Int) + 1))).run Yba.prog (w.alloc (.cells #[.slice none 0 0] 25)) = .ok (.slice (some ⟨w.heap.size + 1, 0, none⟩) 0 (D.on + 1)) ((w.alloc (.cells #[.slice none 0 0] 25)).alloc (.cells z1 27)) ∧ ((w.alloc (.cells #[.slice none 0 0] 25)).alloc (.cells z1 27)).ownsRow w0.heap.size 27 7 (.slice (some ⟨w.heap.size + 1, 0, none⟩) 0 (D.on + 1)) 0 [] := by
    have h := run_make (P := Yba.prog) (w.alloc (.cells #[.slice none 0 0] 25)) 28 27 i0 _ Yba.underlying28 hi hz0 .i64 .i64 0 ((D.on : Int) + 1) (by omega) (by omega) (by rw [hz2]; omega) (by omega)
    have hq : ((D.on : Int) + 1).toNat = D.on + 1 := by omega
    rw [hq, hz1] at h
    refine ⟨_, by simpa using h, ⟨rfl, Or.inr ⟨w.heap.size + 1, D.on + 1, _, rfl, by omega, heap_alloc2_new w _ _, by omega, by unfold maxLen; omega, size_madeCells _ _, rfl⟩⟩⟩
  obtain ⟨W2, hW2⟩ : ∃ z, z = (w.alloc (.cells #[.slice none 0 0] 25)).alloc (.cells z1 27) := ⟨_, rfl⟩
  rw [← hW2] at hm1 hown1
  have hW2s : W2.heap.size = w.heap.size + 2 := by rw [hW2]; simp
  have c9 : ∀ k, W2.cell? ⟨L.b9, k, none⟩ = (spA (D.sp 0))[k]? := by
    intro k
    rw [hW2, World.cell?_alloc_past _ _ _ (by simp; omega), World.cell?_alloc_past _ _ _ hb9]
    exact cell_of hpre.b9 k
  have k0 : W2.cell? ⟨L.b9, 0, none⟩ = some (.bool (D.sp 0).casc) := c9 0
  have k1 : W2.cell? ⟨L.b9, 1, none⟩ = some (.bool (D.sp 0).wait) := c9 1
  have k2 : W2.cell? ⟨L.b9, 2, none⟩ = some (.bool (D.sp 0).ww) := c9 2
  have k3 : W2.cell? ⟨L.b9, 3, none⟩ = some (.bool (D.sp 0).conf) := c9 3
  have k4 : W2.cell? ⟨L.b9, 4, none⟩ = some (.bool (D.sp 0).park) := c9 4
  have k5 : W2.cell? ⟨L.b9, 5, none⟩ = some (.int .u8 (D.sp 0).rd) := c9 5
  have k6 : W2.cell? ⟨L.b9, 6, none⟩ = some (.int .u8 (D.sp 0).wr) := c9 6
  have HO1 := hid hown1
  have HW2 := hid hW2
  obtain ⟨t2, t2s, t2z, hm2⟩ := make_one 93 96 _ _ Yba.underlying93 info96 rfl (by omega) D.on (by omega)
  obtain ⟨t3, t3s, t3z, hm3⟩ := make_one 94 99 _ _ Yba.underlying94 info99 rfl (by omega) D.on (by omega)
  obtain ⟨t4, t4s, t4z, hm4⟩ := make_one 95 4 _ _ Yba.underlying95 info4 rfl (by omega) D.on (by omega)
  have HT2 := hid t2z
  have HT3 := hid t3z
  have HT4 := hid t4z
  have HC := hid c9
  clear h hD hpre hit hx hold c9 hown1 hW2 t2z t3z t4z
  refine sect 9 8 (by kernel_rfl) (by kernel_rfl) ?_
  intro r hr
  have HR := hid hr
  clear hr
  show (Code.seq _ (Code.seq _ (Code.seq _ (Code.seq _ (Code.seq _ (Code.seq _ (Code.seq _ (Code.seq _ r)))))))).wp Yba.prog Q _ _
  unfold frm
  rw [sl.s3, sl.s9]
  unfold ptr
  go_wp2_with (at_builtin; refine stop_ ?_)
  refine Hid.in_ ?_
  refine wpList_append_lies _ rfl _ _ _ rfl w0.heap.size 27 i0 _ 7 7 Yba.underlying28 hi hz0 hz1 hz2 rfl (by omega) _ 0 [] rfl (HO1.out.alloc _) ⟨_, 0, none⟩ 1 1 (spA (D.sp 0)).toList rfl rfl (World.news_of_block (cs := spA (D.sp 0)) (t := 27) (fr := (0, 0)) (by rw [← hW2s]; exact heap_alloc_new _ _)) (by simp [spA, Value.oneCell']) (by omega) (by unfold maxLen; omega) (by omega) (by simp; omega) _ (by simp; rfl) ?_
  intro g1 cap1 w3 hown3 hgr3 hg3 hlt3
  have hb1 : w0.heap.size ≤ g1 := (row_lt hown3 g1 rfl).1
  have hg1 : g1 ≠ w.heap.size := by
    rcases hg3 with e | e
    · have e' : w.heap.size + 1 = g1 := Option.some.inj e
      omega
    · omega
  -- what stays
  have key1 : ∀ b, b ≤ w.heap.size → w3.heap[b]? = W2.heap[b]? := by
    intro b hb
    rw [hgr3.block b (by simp; omega) (by intro e; have e' : b = w.heap.size + 1 := Option.some.inj e; omega)]
    exact heap_alloc_old _ _ (by omega)
  have hs3 : W2.heap.size < w3.heap.size := by have := hgr3.size; simp at this; omega
  have os3 : w3.os = W2.os := hgr3.os
  have ou3 : w3.output = W2.output := hgr3.output
  have fin : ∀ (g2 cap2 : Nat) (w4 : World) (f' : Nat → Value), (∀ b, b ≤ w.heap.size → w4.heap[b]? = W2.heap[b]?) → w4.os = W2.os → w4.output = W2.output → W2.heap.size < w4.heap.size → g2 < w4.heap.size → w.heap.size < g2 → w4.ownsRow w0.heap.size 27 7 (.slice (some ⟨g2, 0, none⟩) (D.on + 1) cap2) (D.on + 1) ((spA (D.sp 0)).toList ++ othC D) →
      (f' 1 = f 1 ∧ f' 7 = f 7 ∧ f' 11 = f 11 ∧ f' 12 = f 12 ∧ f' 13 = f 13 ∧ f' 15 = f 15 ∧ f' 16 = f 16 ∧ f' 17 = f 17 ∧ f' 18 = f 18 ∧ f' 19 = f 19) → f' 22 = ptr w.heap.size → f' 23 = .slice (some ⟨g2, 0, none⟩) (D.on + 1) cap2 → f' 24 = .slice (some ⟨w4.heap.size, 0, none⟩) (D.on + 1) (D.on + 1) → f' 25 = .slice (some ⟨w4.heap.size + 1, 0, none⟩) (D.on + 1) (D.on + 1) → f' 26 = .slice (some ⟨w4.heap.size + 2, 0, none⟩) (D.on + 1) (D.on + 1) → f' 27 = .int .i64 0 →
      WpT 17 Q f' (((w4.alloc (.cells t2 96)).alloc (.cells t3 99)).alloc (.cells t4 4)) := by
    intro g2 cap2 w4 f' hk4 os4 ou4 hs4 hg4 hgw hown4 hf h22 h23 h24 h25 h26 h27
    obtain ⟨W, hW⟩ : ∃ z, z = ((w4.alloc (.cells t2 96)).alloc (.cells t3 99)).alloc (.cells t4 4) := ⟨_, rfl⟩
    rw [← hW]
    have b2 : W.heap[w4.heap.size]? = some (.cells t2 96 (0, 0)) := by
      rw [hW, heap_alloc_old _ _ (by simp; omega), heap_alloc_old _ _ (by simp)]; exact heap_alloc_new _ _
    have b3 : W.heap[w4.heap.size + 1]? = some (.cells t3 99 (0, 0)) := by
      rw [hW, heap_alloc_old _ _ (by simp)]
      have := heap_alloc_new (w4.alloc (.cells t2 96)) (.cells t3 99)
      simpa using this
    have b4 : W.heap[w4.heap.size + 2]? = some (.cells t4 4 (0, 0)) := by
      rw [hW]
      have := heap_alloc_new ((w4.alloc (.cells t2 96)).alloc (.cells t3 99)) (.cells t4 4)
      simpa using this
    have hWs : W.heap.size = w4.heap.size + 3 := by rw [hW]; simp
    have old4 : ∀ b, b < w4.heap.size → W.heap[b]? = w4.heap[b]? := by
      intro b hb
      rw [hW, heap_alloc_old _ _ (by simp; omega), heap_alloc_old _ _ (by simp; omega), heap_alloc_old _ _ hb]
    have old : ∀ b, b < w.heap.size → W.heap[b]? = w.heap[b]? := by
      intro b hb
      rw [old4 b (by omega), hk4 b (by omega), HW2.out, heap_alloc_old _ _ (by simp; omega), heap_alloc_old _ _ hb]
    have lgH : W.heap[w.heap.size]? = some (.cells #[.slice none 0 0] 25 (0, 0)) := by
      rw [old4 _ (by omega), hk4 _ (Nat.le_refl _), HW2.out, heap_alloc_old _ _ (by simp)]
      exact heap_alloc_new _ _
    have hos : W.os = w.os := by
      have e1 : W.os = w4.os := by rw [hW]; rfl
      have e2 : W2.os = w.os := by rw [HW2.out]; rfl
      rw [e1, os4, e2]
    have hou : W.output = w.output := by
      have e1 : W.output = w4.output := by rw [hW]; rfl
      have e2 : W2.output = w.output := by rw [HW2.out]; rfl
      rw [e1, ou4, e2]
    clear hW
    obtain ⟨hpre, hit, hx, hold⟩ := HP.out
    have hcell : ∀ b k, b < w.heap.size → W.cell? ⟨b, k, none⟩ = w.cell? ⟨b, k, none⟩ := fun b k hb => by simp [World.cell?, old b hb]
    have hfroz : ∀ b k, b < w.heap.size → W.frozen? ⟨b, k, none⟩ = w.frozen? ⟨b, k, none⟩ := fun b k hb => by simp [World.frozen?, old b hb]
    have lt : ∀ b o, w.heap[b]? = some o → b < w.heap.size := fun b o e => (Array.getElem?_eq_some_iff.1 e).1
    have stl : L.st < w.heap.size := by have := ho.h11; have := ho.h12; omega
    have ls := lt _ _ hit.sH
    have ll := lt _ _ hit.lH
    have lg := lt _ _ hit.gH
    have hpre' : Pre D L W := hpre.keep ho (fun b hb => old b (by omega)) (fun k _ => hcell _ k stl)
    have hit' : Tab D L N s l g cap 4 zs cs W := ⟨(hcell _ _ stl).trans hit.t127, (hcell _ _ stl).trans hit.t129, (hcell _ _ stl).trans hit.t131, fun k => (hfroz _ _ stl).trans (hit.fr k), hit.sN, (old s ls).trans hit.sH, hit.zin, hit.lN, (old l ll).trans hit.lH, hit.gN, (old g lg).trans hit.gH, hit.cin, hit.sl, hit.sg, hit.lg⟩
    have hx' : W.heap[L.b19]? = some (.cells (xsA 4) 89 (0, 0)) := (old _ (by have := ho.h12; omega)).trans hx
    obtain ⟨hgB, scs, sH, sC⟩ := specs_of D w4 w0.heap.size g2 _ cap2 _ rfl hown4 rfl
    obtain ⟨e1, e7, e11, e12, e13, e15, e16, e17, e18, e19⟩ := hf
    obtain ⟨o0, o1, o2, o3, o4, o5, o6, o7, o8, o9, o10, o11, o12⟩ := ho
    refine HH.out f' W ⟨L.e7, L.b11, L.b12, L.b13, L.b15, L.b19, g2, w4.heap.size, w4.heap.size + 1, w4.heap.size + 2⟩ (baseA L.st L.sch L.vs L.live L.wait s l g w.heap.size) cap2 ⟨e1.trans sl.s1, e7.trans sl.s7, e11.trans sl.s11, e12.trans sl.s12, e13.trans sl.s13, e15.trans sl.s15, e16.trans sl.s16, e17.trans sl.s17, e18.trans sl.s18, e19.trans sl.s19, h22, h23, h24, h25, h26⟩ h27 ⟨hpre'.e7, hpre'.b11, hpre'.b12, hpre'.b13, hpre'.b15, hx', scs, (old4 _ hg4).trans sH, sC⟩ ?_ ?_ ?_ ?_
    · refine ⟨⟨t2, b2, t2s, fun i hi => absurd hi (Nat.not_lt_zero _)⟩, ⟨t3, b3, t3s, fun i hi => absurd hi (Nat.not_lt_zero _), fun i _ hi => HT3.out i hi⟩, ⟨t4, b4, t4s, fun i hi => absurd hi (Nat.not_lt_zero _), fun i _ hi => HT4.out i hi⟩⟩
    · exact rep0 D L N s l g cap w.heap.size w0.heap.size zs cs W hpre' ⟨o0, o1, o2, o3, o4, o5, o6, o7, o8, o9, o10, o11, o12⟩ hit' (by omega) lgH hN (by omega) (by omega) (by omega)
    · have hw4 : w.heap.size + 2 < w4.heap.size := by omega
      refine ⟨?_, ?_, ?_⟩
      · simp only [Var.all, List.nodup_cons, List.mem_cons, List.not_mem_nil, not_or, or_false, not_false_eq_true, and_true, List.nodup_nil]
        omega
      · intro b hb
        simp only [Var.all, List.mem_cons, List.not_mem_nil, or_false] at hb
        omega
      · have q1 := hit.sN
        have q2 := hit.lN
        have q3 := hit.gN
        intro r hr hm
        simp only [Var.all, List.mem_cons, List.not_mem_nil, or_false] at hm
        cases r using Role.split with
        | st => change L.st = _ ∨ L.st = _ ∨ L.st = _ ∨ L.st = _ ∨ L.st = _ ∨ L.st = _ ∨ L.st = _ ∨ L.st = _ ∨ L.st = _ ∨ L.st = _ at hm; omega
        | sch => change L.sch = _ ∨ L.sch = _ ∨ L.sch = _ ∨ L.sch = _ ∨ L.sch = _ ∨ L.sch = _ ∨ L.sch = _ ∨ L.sch = _ ∨ L.sch = _ ∨ L.sch = _ at hm; omega
        | vs => change L.vs = _ ∨ L.vs = _ ∨ L.vs = _ ∨ L.vs = _ ∨ L.vs = _ ∨ L.vs = _ ∨ L.vs = _ ∨ L.vs = _ ∨ L.vs = _ ∨ L.vs = _ at hm; omega
        | live => change L.live = _ ∨ L.live = _ ∨ L.live = _ ∨ L.live = _ ∨ L.live = _ ∨ L.live = _ ∨ L.live = _ ∨ L.live = _ ∨ L.live = _ ∨ L.live = _ at hm; omega
        | wait => change L.wait = _ ∨ L.wait = _ ∨ L.wait = _ ∨ L.wait = _ ∨ L.wait = _ ∨ L.wait = _ ∨ L.wait = _ ∨ L.wait = _ ∨ L.wait = _ ∨ L.wait = _ at hm; omega
        | slots => change s = _ ∨ s = _ ∨ s = _ ∨ s = _ ∨ s = _ ∨ s = _ ∨ s = _ ∨ s = _ ∨ s = _ ∨ s = _ at hm; omega
        | long => change l = _ ∨ l = _ ∨ l = _ ∨ l = _ ∨ l = _ ∨ l = _ ∨ l = _ ∨ l = _ ∨ l = _ ∨ l = _ at hm; omega
        | xs => change g = _ ∨ g = _ ∨ g = _ ∨ g = _ ∨ g = _ ∨ g = _ ∨ g = _ ∨ g = _ ∨ g = _ ∨ g = _ at hm; omega
        | log => change w.heap.size = _ ∨ w.heap.size = _ ∨ w.heap.size = _ ∨ w.heap.size = _ ∨ w.heap.size = _ ∨ w.heap.size = _ ∨ w.heap.size = _ ∨ w.heap.size = _ ∨ w.heap.size = _ ∨ w.heap.size = _ at hm; omega
        | kn => obtain ⟨k, hk⟩ := hr; exact absurd rfl hk
        | U i => exact absurd hr (Nat.not_lt_zero _)
        | Wt i => exact absurd hr.1 (Nat.not_lt_zero _)
        | Rm i => exact absurd hr.1 (Nat.not_lt_zero _)
        | Wm i => exact absurd hr.1 (Nat.not_lt_zero _)
        | Ch i => exact absurd hr.1 (Nat.not_lt_zero _)
        | Pn i => exact absurd hr.1 (Nat.not_lt_zero _)
        | Pl i => exact absurd hr.1 (Nat.not_lt_zero _)
        | Ae i => exact absurd hr.1 (Nat.not_lt_zero _)
    · exact hold.trans ⟨hos, hou, by omega, fun b hb => old b (by omega)⟩
  have HFin := hid fin
  have hgw : w.heap.size < g1 := by
    rcases hg3 with e | e
    · have e' : w.heap.size + 1 = g1 := Option.some.inj e
      omega
    · omega
  have HO3 := hid hown3
  have HK1 := hid key1
  clear fin hown3 hgr3 key1 hg3
  cases hoa : D.oa with
  | none =>
    obtain ⟨e1, e2⟩ := hnil hoa
    have hoth : othC D = [] := by unfold othC; rw [e1]; rfl
    rw [e1, e2]
    go_wp2_with (at_builtin; refine stop_ ?_)
    refine Hid.in_ ?_
    refine wpList_append_own_none rfl _ _ _ rfl w0.heap.size 27 i0 7 Yba.underlying28 hi _ _ _ rfl HO3.out rfl ?_
    rw [e1] at hm2 hm3 hm4
    simp only [Int.ofNat_zero, Int.natCast_zero, Int.zero_add, Nat.zero_add] at hm2 hm3 hm4
    have hm2' := hm2
    have hm3' := hm3
    have hm4' := hm4
    go_wp2_with fail
    refine leave HR _ (by rfl) ?_
    intro f' hf'
    refine HFin.out g1 cap1 w3 f' HK1.out os3 ou3 hs3 hlt3 hgw ?_ ⟨hf' 1, hf' 7, hf' 11, hf' 12, hf' 13, hf' 15, hf' 16, hf' 17, hf' 18, hf' 19⟩ (hf' 22) ?_ ?_ ?_ ?_ (hf' 27)
    · rw [hoth, e1]
      simpa using HO3.out
    · rw [e1]; exact hf' 23
    · rw [e1]; exact hf' 24
    · rw [e1]; exact hf' 25
    · rw [e1]; exact hf' 26
  | some oa =>
    go_wp2_with (at_builtin; refine stop_ ?_)
    refine Hid.in_ ?_
    refine wpList_append_own_at _ rfl _ _ _ rfl w0.heap.size 27 i0 _ 7 7 Yba.underlying28 hi hz0 hz1 hz2 rfl (by omega) _ _ _ rfl HO3.out oa D.on D.oc (othC D) rfl (othC_len D) ?_ (othC_one D) (by unfold maxLen; omega) (by omega) (by omega) ?_
    · intro j u hj
      have hjl : j < D.on * 7 := by have := (List.getElem?_eq_some_iff.1 hj).1; rw [othC_len] at this; exact this
      obtain ⟨a, ha, hab, hc⟩ := HD.out.oth (j / 7) (by omega)
      rw [hoa] at ha
      cases ha
      rw [show j = j / 7 * 7 + j % 7 by omega] at hj ⊢
      rw [othC_get D _ _ (by omega) (by omega)] at hj
      have hcc := hc _ _ hj
      rw [← hcc]
      have hbl : (oa.add (j / 7 * 7 + j % 7)).block < w0.heap.size := by rw [add_block]; exact hab
      have e1 : w3.heap[(oa.add (j / 7 * 7 + j % 7)).block]? = w0.heap[(oa.add (j / 7 * 7 + j % 7)).block]? := by
        rw [HK1.out _ (by omega), HW2.out, heap_alloc_old _ _ (by simp; omega), heap_alloc_old _ _ (by omega)]
        exact HP.out.2.2.2.block _ hbl
      simp only [World.cell?, e1]
    · intro v' w4 hown4 hgr4 hnil4 hat4
      have hne : v' ≠ .slice none 0 0 := fun e => by have := (hnil4.1 e).1; cases this
      obtain ⟨hlen, hrow⟩ := hown4
      rcases hrow with ⟨h3, _⟩ | ⟨g2, cap2, cur, rfl, hg2, hheap, hnc, hmx, hsz2, htk⟩
      · exact absurd h3 hne
      have hown4' : w4.ownsRow w0.heap.size 27 7 (.slice (some ⟨g2, 0, none⟩) (D.on + 1) cap2) (D.on + 1) ((spA (D.sp 0)).toList ++ othC D) := by
        have e : 0 + 1 + D.on = D.on + 1 := by omega
        have hown5 : w4.ownsRow w0.heap.size 27 7 (.slice (some ⟨g2, 0, none⟩) (0 + 1 + D.on) cap2) (0 + 1 + D.on) ([] ++ (spA (D.sp 0)).toList ++ othC D) := ⟨hlen, Or.inr ⟨g2, cap2, cur, rfl, hg2, hheap, hnc, hmx, hsz2, htk⟩⟩
        rw [e] at hown5
        simpa using hown5
      have hlt4 : g2 < w4.heap.size := (Array.getElem?_eq_some_iff.1 hheap).1
      have hs4 : w3.heap.size ≤ w4.heap.size := hgr4.size
      have hgw2 : w.heap.size < g2 := by
        rcases hat4 with e | e
        · have e' : g2 = g1 := Option.some.inj e
          omega
        · have e' : g2 = w3.heap.size := Option.some.inj e
          omega
      have hk4 : ∀ b, b ≤ w.heap.size → w4.heap[b]? = W2.heap[b]? := by
        intro b hb
        rw [hgr4.block b (by omega) (by intro e; have e' : b = g1 := Option.some.inj e; omega)]
        exact HK1.out b hb
      have os4 : w4.os = W2.os := hgr4.os.trans os3
      have ou4 : w4.output = W2.output := hgr4.output.trans ou3
      have HO4 := hid hown4'
      have HK4 := hid hk4
      clear hown4' hk4 hgr4 hnil4 hat4 hne hlen hheap hnc hmx hsz2 htk
      have e : 0 + 1 + D.on = D.on + 1 := by omega
      rw [e]
      go_wp2_with fail
      refine leave HR _ (by rfl) ?_
      intro f' hf'
      exact HFin.out g2 cap2 w4 f' HK4.out os4 ou4 (by omega) hlt4 hgw2 HO4.out ⟨hf' 1, hf' 7, hf' 11, hf' 12, hf' 13, hf' 15, hf' 16, hf' 17, hf' 18, hf' 19⟩ (hf' 22) (hf' 23) (hf' 24) (hf' 25) (hf' 26) (hf' 27)
end Go.Proofs.Ybulkedxc
