/-
  LawS6515BWhole: statement 20: the notes, one by one.
-/
import Derived.Test.YbulkedxcT18
namespace Go.Proofs.Ybulkedxc
open Go.RowKit
attribute [local simp] setO_size setT_same
set_option linter.unusedSimpArgs false
set_option linter.unusedVariables false
set_option linter.unnecessarySimpa false

set_option maxRecDepth 100000 in
set_option maxHeartbeats 3200000 in
theorem sec20 (D : Inp) (V : Var) (A : Role → Nat) (cap Hs : Nat) (nv0 : Value) (w0 wS w : World) (Q : Exit → Act → World → Prop) (f : Nat → Value) (hD : InpAt D w0) (hHs : Hs = wS.heap.size) (sl : Sl2 D V A cap f) (h34 : f 34 = nv0) (hnt : Nt D Hs (fun _ => 0) nv0 0 w) (hBw : Below Hs wS w) (hvars : Vars D V wS) (hvl : ∀ b ∈ V.all, b < Hs) (hold : Old w0.heap.size w0 wS) (hB0 : w0.heap.size ≤ Hs)
    (h : ∀ f' w' ib nv, Sl2 D V A cap f' → f' 27 = f 27 → f' 34 = nv → Nt D Hs ib nv D.nn w' → Below Hs wS w' → WpT 21 Q f' w') : WpT 20 Q f w := by
  have HH := hid h
  have HD := hid hD
  have hnn := hD.nnB
  have hnn' : (D.nn : Int) ≤ 65536 := by omega
  have hnn0 : (0 : Int) ≤ (D.nn : Int) := by omega
  obtain ⟨i0, hi, hz0, hz1, hz2⟩ := info_parts info125
  have H0 := hid (And.intro hnt hBw)
  have H34 := hid h34
  have HV := hid (And.intro hvars hvl)
  have HO := hid hold
  clear h hD hnt hBw h34 hvars hvl hold
  refine sect 20 1 (by kernel_rfl) (by kernel_rfl) ?_
  intro r hr
  have HR := hid hr
  clear hr
  show (Code.seq _ r).wp Yba.prog Q _ _
  obtain ⟨I, hI⟩ : ∃ I : Act → World → Prop, I = fun a w1 => ∃ (f1 : Nat → Value) (k : Nat) (ib : Nat → Nat) (nv : Value), a = ⟨frm f1, []⟩ ∧ Sl2 D V A cap f1 ∧ f1 27 = f 27 ∧ f1 34 = nv ∧ f1 35 = .int .i64 k ∧ k ≤ D.nn ∧ Nt D Hs ib nv k w1 ∧ Below Hs wS w1 := ⟨_, rfl⟩
  obtain ⟨M, hM⟩ : ∃ M : Act → World → Nat, M = fun a _ => D.nn - (intOf (nth a.tmps.toList 35)).toNat := ⟨_, rfl⟩
  have HI := hid hI
  have HM := hid hM
  clear hI hM
  unfold frm
  go_wp2_with fail
  refine wp_loop I M ?_ ?_
  · rw [HI.out]
    refine ⟨nth (Array.toList _), 0, _, nv0, congrArg (fun x => Act.mk x []) (frm_of _ ?_).symm, ⟨sl.s1, sl.s7, sl.s11, sl.s12, sl.s13, sl.s15, sl.s16, sl.s17, sl.s18, sl.s19, sl.s22, sl.s23, sl.s24, sl.s25, sl.s26⟩, rfl, H34.out, rfl, by omega, H0.out.1, H0.out.2⟩
    rfl
  clear H0 H34
  intro a1 w1 h1
  rw [HI.out] at h1
  obtain ⟨f1, k, ib, nv, rfl, sl1, e27, e34, e35, hk, hnt, hBw⟩ := h1
  have H27 := hid e27
  have HS := hid sl
  clear e27 sl
  unfold frm
  rw [e34, e35, sl1.s7]
  unfold ptr
  have me7 : V.e7 < Hs := HV.out.2 _ (by simp [Var.all])
  have z6 : w1.cell? ⟨V.e7, 6, none⟩ = some (.slice D.na D.nn D.nc) := (hBw.cell (p := ⟨V.e7, 6, none⟩) me7).trans (cell_of HV.out.1.e7 6)
  by_cases hlt : k < D.nn
  · have hki : (k : Int) < (D.nn : Int) := by omega
    have hkp : (0 : Int) ≤ (k : Int) := by omega
    obtain ⟨na, hna, hnb, c0, c1, c2⟩ := HD.out.note k hlt
    have hcell : ∀ j, w1.cell? (na.add j) = w0.cell? (na.add j) := fun j => by
      have e : (na.add j).block < Hs := by rw [add_block]; omega
      exact (hBw.cell e).trans (HO.out.cell (by rw [add_block]; exact hnb))
    have d0 : w1.cell? (na.add (k * 3)) = some (.bool (D.np k)) := (hcell _).trans c0
    have d1 : w1.cell? ⟨(na.add (k * 3)).block, (na.add (k * 3)).off + 1, none⟩ = some (.string (D.nit k)) := by rw [show (⟨(na.add (k * 3)).block, (na.add (k * 3)).off + 1, none⟩ : Addr) = (na.add (k * 3)).add 1 from rfl, Addr.add_add]; exact (hcell _).trans c1
    have d2 : w1.cell? ⟨(na.add (k * 3)).block, (na.add (k * 3)).off + 2, none⟩ = some (.int .i64 (D.nvl k)) := by rw [show (⟨(na.add (k * 3)).block, (na.add (k * 3)).off + 2, none⟩ : Addr) = (na.add (k * 3)).add 2 from rfl, Addr.add_add]; exact (hcell _).trans c2
    have hnbl : na.block < w1.heap.size := by have := hBw.size; omega
    have hHw : Hs ≤ w1.heap.size := by have := hBw.size; omega
    rw [hna] at z6
    have HNT := hid hnt
    have HBW := hid hBw
    clear hnt hBw hcell c0 c1 c2
    go_wp2_with fail
    go_region_held3 (fun w' => w'.cell? ⟨V.e7, 6, none⟩ = some (.slice (some na) D.nn D.nc) ∧ w'.cell? ⟨(na.add (k * 3)).block, (na.add (k * 3)).off + 1, none⟩ = some (.string (D.nit k)) ∧ w'.cell? ⟨(na.add (k * 3)).block, (na.add (k * 3)).off + 2, none⟩ = some (.int .i64 (D.nvl k))) (go_keep) (fail)
    go_upto_region 58 with fail
    generalize hW2 : (w1.alloc _).drew = W2
    have hs2 : W2.heap.size = w1.heap.size + 1 := by rw [← hW2]; show (w1.alloc _).heap.size = _; simp
    have p1 : ∀ b, b < w1.heap.size → W2.heap[b]? = w1.heap[b]? := fun b hb => by rw [← hW2]; show (w1.alloc _).heap[b]? = _; exact heap_alloc_old _ _ hb
    have p2 : W2.heap[w1.heap.size]? = some (.cells #[.string (D.nit k), .int .i64 (D.nvl k)] 121 (0, 0)) := by rw [← hW2]; show (w1.alloc _).heap[w1.heap.size]? = _; exact heap_alloc_new _ _
    have os2 : W2.os = w1.os := by rw [← hW2]; rfl
    have ta2 : W2.tape = w1.tape := by rw [← hW2]; rfl
    have ou2 : W2.output = w1.output := by rw [← hW2]; rfl
    have own2 : W2.ownsRow Hs 125 1 nv k ((List.range k).map (noteV ⟨D.np, D.nit, D.nvl, ib⟩)) := row_keep HNT.out.own (fun b hb => p1 b (row_lt HNT.out.own b hb).2)
    have me7' : V.e7 < w1.heap.size := by omega
    have y6 : W2.cell? ⟨V.e7, 6, none⟩ = some (.slice (some na) D.nn D.nc) := by rw [← z6]; simp only [World.cell?, p1 _ me7']
    have y0 : W2.cell? (na.add (k * 3)) = some (.bool (D.np k)) := by
      rw [← d0]
      have : (na.add (k * 3)).block < w1.heap.size := by rw [add_block]; exact hnbl
      simp only [World.cell?, p1 _ this]
    have x0 : W2.cell? ⟨w1.heap.size, 0, none⟩ = some (.string (D.nit k)) := cell_of p2 0
    have x1 : W2.cell? ⟨w1.heap.size, 1, none⟩ = some (.int .i64 (D.nvl k)) := cell_of p2 1
    have HW2 := hid (And.intro p1 (And.intro p2 (And.intro (And.intro os2 (And.intro ta2 ou2)) own2)))
    obtain ⟨ib', hib⟩ : ∃ ib' : Nat → Nat, ib' = fun j => if j = k then w1.heap.size else ib j := ⟨_, rfl⟩
    have HIB := hid hib
    clear hW2 p1 p2 os2 ta2 ou2 own2 hib z6 d0 d1 d2
    have fin : ∀ (g cap9 : Nat) (w9 : World) (o : Obj) (v : Value), v = noteV ⟨D.np, D.nit, D.nvl, ib'⟩ k → w9.ownsRow Hs 125 1 (.slice (some ⟨g, 0, none⟩) (k + 1) cap9) (k + 1) ((List.range k).map (noteV ⟨D.np, D.nit, D.nvl, ib⟩) ++ [v]) → (W2.alloc o).grownBy w9 nv.ownBlock → (nv.ownBlock = some g ∨ g = w1.heap.size + 2) → Nt D Hs ib' (.slice (some ⟨g, 0, none⟩) (k + 1) cap9) (k + 1) w9 ∧ Below Hs wS w9 := by
      intro g cap9 w9 o v hv hown hgr hat
      have hs9 := hgr.size
      simp at hs9
      have hob := row_lt HNT.out.own
      have k9 : ∀ b, b < W2.heap.size → nv.ownBlock ≠ some b → w9.heap[b]? = W2.heap[b]? := fun b hb hx => by
        rw [hgr.block b (by simp; omega) (Ne.symm hx)]
        exact heap_alloc_old _ _ hb
      have hgne : ∀ j, j < k → D.np j = true → g ≠ ib j := by
        intro j hj hp e
        have := HNT.out.ptr j hj hp
        rcases hat with h | h
        · exact this.2.2 (by rw [h, e])
        · have := (Array.getElem?_eq_some_iff.1 this.2.1).1
          omega
      have hg1 : g ≠ w1.heap.size := by
        rcases hat with h | h
        · have := hob g h; omega
        · omega
      refine ⟨⟨?_, fun e => ?_, (fun _ e => by cases e), fun j hj hp => ?_⟩, ?_⟩
      · have e : (List.range (k + 1)).map (noteV ⟨D.np, D.nit, D.nvl, ib'⟩) = (List.range k).map (noteV ⟨D.np, D.nit, D.nvl, ib⟩) ++ [v] := by
          rw [List.range_succ, List.map_append, hv]
          congr 1
          apply List.map_congr_left
          intro j hj
          simp at hj
          unfold noteV plainV
          rw [HIB.out]
          simp only [show ¬ j = k by omega, if_false]
        rw [e]
        exact hown
      · rw [hna] at e; cases e
      · by_cases e : j = k
        · subst e
          have e' : ib' j = w1.heap.size := by rw [HIB.out]; simp
          rw [e']
          refine ⟨hHw, (k9 _ (by omega) (fun h => by have := hob _ h; omega)).trans HW2.out.2.1, fun h => hg1 (Option.some.inj h)⟩
        · have e' : ib' j = ib j := by rw [HIB.out]; simp [e]
          obtain ⟨h1, h2, h3⟩ := HNT.out.ptr j (by omega) hp
          have hl := (Array.getElem?_eq_some_iff.1 h2).1
          rw [e']
          exact ⟨h1, (k9 _ (by omega) h3).trans ((HW2.out.1 _ hl).trans h2), fun h => hgne j (by omega) hp (Option.some.inj h)⟩
      · have hb := HBW.out
        refine ⟨hgr.os.trans (HW2.out.2.2.1.1.trans hb.os), hgr.tape.trans (HW2.out.2.2.1.2.1.trans hb.tape), hgr.output.trans (HW2.out.2.2.1.2.2.trans hb.output), by omega, fun b hlb => ?_⟩
        rw [k9 b (by omega) (fun h => by have := hob _ h; omega), HW2.out.1 b (by omega)]
        exact hb.block b hlb
    have HFIN := hid fin
    clear fin
    cases hp : D.np k
    · rw [hp] at y0
      go_wp2_with (at_builtin; refine stop_ ?_)
      refine Hid.in_ ?_
      refine wpList_append_lies _ rfl _ _ _ rfl Hs 125 i0 .nilIface 1 16 Yba.underlying117 hi hz0 hz1 hz2 rfl (by omega) nv k _ rfl (HW2.out.2.2.2.alloc _) ⟨_, 0, none⟩ 1 1 [.iface 121 (.agg #[.string (D.nit k), .int .i64 (D.nvl k)])] rfl rfl (World.news_of_block (cs := #[.iface 121 (.agg #[.string (D.nit k), .int .i64 (D.nvl k)])]) (t := 125) (fr := (0, 0)) ?_) (by simp [Value.oneCell']) (by omega) (by unfold maxLen; omega) (by omega) (by simp; omega) (w1.heap.size + 2) (by simp [hs2]) ?_
      · have := heap_alloc_new W2 (.cells #[.iface 121 (.agg #[.string (D.nit k), .int .i64 (D.nvl k)])] 125)
        simpa [hs2] using this
      intro g cap9 w9 hown9 hgr9 hat9 hlt9
      have HG := hid (HFIN.out g cap9 w9 (.cells #[.iface 121 (.agg #[.string (D.nit k), .int .i64 (D.nvl k)])] 125) (.iface 121 (.agg #[.string (D.nit k), .int .i64 (D.nvl k)])) (by simp [noteV, plainV, hp]) hown9 hgr9 hat9)
      clear hown9 hgr9 hat9
      go_wp2_with fail
      rw [HI.out, HM.out]
      refine ⟨⟨nth (Array.toList _), k + 1, ib', _, congrArg (fun x => Act.mk x []) (frm_of _ ?_).symm, ⟨sl1.s1, rfl, sl1.s11, sl1.s12, sl1.s13, sl1.s15, sl1.s16, sl1.s17, sl1.s18, sl1.s19, sl1.s22, sl1.s23, sl1.s24, sl1.s25, sl1.s26⟩, H27.out, rfl, ?_, by omega, HG.out.1, HG.out.2⟩, ?_⟩
      · rfl
      · show Value.int _ _ = _
        go_num
      · simp [nth, intOf]
        omega
    · rw [hp] at y0
      go_wp2_with (at_builtin; refine stop_ ?_)
      refine Hid.in_ ?_
      refine wpList_append_lies _ rfl _ _ _ rfl Hs 125 i0 .nilIface 1 16 Yba.underlying117 hi hz0 hz1 hz2 rfl (by omega) nv k _ rfl (HW2.out.2.2.2.alloc _) ⟨_, 0, none⟩ 1 1 [.iface 122 (.pointer (some ⟨w1.heap.size, 0, none⟩))] rfl rfl (World.news_of_block (cs := #[.iface 122 (.pointer (some ⟨w1.heap.size, 0, none⟩))]) (t := 125) (fr := (0, 0)) ?_) (by simp [Value.oneCell']) (by omega) (by unfold maxLen; omega) (by omega) (by simp; omega) (w1.heap.size + 2) (by simp [hs2]) ?_
      · have := heap_alloc_new W2 (.cells #[.iface 122 (.pointer (some ⟨w1.heap.size, 0, none⟩))] 125)
        simpa [hs2] using this
      intro g cap9 w9 hown9 hgr9 hat9 hlt9
      have HG := hid (HFIN.out g cap9 w9 (.cells #[.iface 122 (.pointer (some ⟨w1.heap.size, 0, none⟩))] 125) (.iface 122 (.pointer (some ⟨w1.heap.size, 0, none⟩))) (by simp [noteV, hp, HIB.out, ptr]) hown9 hgr9 hat9)
      clear hown9 hgr9 hat9
      go_wp2_with fail
      rw [HI.out, HM.out]
      refine ⟨⟨nth (Array.toList _), k + 1, ib', _, congrArg (fun x => Act.mk x []) (frm_of _ ?_).symm, ⟨sl1.s1, rfl, sl1.s11, sl1.s12, sl1.s13, sl1.s15, sl1.s16, sl1.s17, sl1.s18, sl1.s19, sl1.s22, sl1.s23, sl1.s24, sl1.s25, sl1.s26⟩, H27.out, rfl, ?_, by omega, HG.out.1, HG.out.2⟩, ?_⟩
      · rfl
      · show Value.int _ _ = _
        go_num
      · simp [nth, intOf]
        omega
  · have : k = D.nn := by omega
    subst this
    have HNT := hid hnt
    have HBW := hid hBw
    clear hnt hBw
    go_wp2_with fail
    refine leave HR _ (by rfl) ?_
    intro f' hf'
    exact HH.out f' w1 ib nv ⟨(hf' 1).trans sl1.s1, hf' 7, (hf' 11).trans sl1.s11, (hf' 12).trans sl1.s12, (hf' 13).trans sl1.s13, (hf' 15).trans sl1.s15, (hf' 16).trans sl1.s16, (hf' 17).trans sl1.s17, (hf' 18).trans sl1.s18, (hf' 19).trans sl1.s19, (hf' 22).trans sl1.s22, (hf' 23).trans sl1.s23, (hf' 24).trans sl1.s24, (hf' 25).trans sl1.s25, (hf' 26).trans sl1.s26⟩ ((hf' 27).trans H27.out) (hf' 34) HNT.out HBW.out
end Go.Proofs.Ybulkedxc
