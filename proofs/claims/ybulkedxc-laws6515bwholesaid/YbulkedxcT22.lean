/-
  LawS6515BWhole: statements 21 to 25, walked.
-/
import Derived.Test.YbulkedxcT21
namespace Go.Proofs.Ybulkedxc
open Go.RowKit
attribute [local simp] setO_size setT_same
set_option linter.unusedSimpArgs false
set_option linter.unusedVariables false
set_option linter.unnecessarySimpa false

theorem cell_below {w w' : World} {C : Nat} (hb : Below C w w') {p : Addr} (hp : p.block < C) : w'.cell? p = w.cell? p := hb.cell hp

theorem clOf_nodup (D : Inp) (k : Nat) : (clOf D k).Nodup := List.Nodup.sublist List.filter_sublist List.nodup_range
theorem clOf_mem (D : Inp) (k : Nat) : ∀ i ∈ clOf D k, 0 < i ∧ i < k := by
  intro i hi
  unfold clOf at hi
  simp at hi
  omega
theorem cv_at {D : Inp} {V : Var} {A : Role → Nat} {xcap k : Nat} {cv : Value} {w0 w : World} (h : Rd D V A cv xcap k w0 w) : CvAt A (envOf D k cv xcap) (sys0 D) w (clOf D k) := by
  obtain ⟨h1, h2⟩ := h.cv.own
  rcases h2 with ⟨h3, h4⟩ | ⟨g, cap, cur, h3, hg, hheap, hnc, _, hsz, htk⟩
  · have hc : clOf D k = [] := List.length_eq_zero_iff.1 h4
    rw [hc]
    exact ⟨none, 0, h3, fun k i e => by cases e⟩
  · refine ⟨_, cap, h3, fun j i e => ⟨g, rfl, (Array.getElem?_eq_some_iff.1 hheap).1, fun r hr => h.cv.role g (by rw [h3]; rfl) r hr, ?_⟩⟩
    have hjn := (List.getElem?_eq_some_iff.1 e).1
    rw [cell_of hheap]
    have : cur[j]? = ((clOf D k).map fun i : Nat => Value.int .i64 ((i : Int) + 1))[j]? := by
      rw [← htk, List.getElem?_take_of_lt (by omega)]
      simp
    rw [this, List.getElem?_map, e]
    rfl
/-- keptNotes at the law's notes -/
theorem kept_law {D : Inp} {Hs : Nat} {ib : Nat → Nat} {a : Option Addr} {c : Nat} {w : World} (h : Nt D Hs ib (.slice a D.nn c) D.nn w) (hn : D.nn ≤ 65536) (w2 : World) (hb : Below w.heap.size w w2) :
    Calls Yba.prog 15 #[.slice a D.nn c] w2 fun e w' => ∃ kv, e = .returned kv ∧ KeptAt w2 w' (ntD D ib) (.slice a D.nn c) kv D.nn := by
  rcases Nat.eq_zero_or_pos D.nn with h0 | h0
  · rw [h0]
    refine (kept_none a c w2).mono ?_
    rintro e w' ⟨rfl, rfl⟩
    exact ⟨_, rfl, Below.refl _ _, a, c, rfl, Nat.zero_le _, fun _ => ⟨c, rfl⟩, fun h => absurd h (Nat.lt_irrefl _)⟩
  · obtain ⟨g, c', e, hg, hN⟩ := h.at_ h0
    cases e
    refine (kept_some (ntD D ib) g D.nn c w2 (hN.below hb) h0 hn).mono ?_
    rintro e w' ⟨g2, cap, rfl, g1, g3, g4, g5, g6⟩
    exact ⟨_, rfl, g6, _, cap, rfl, g4, fun h => by omega, fun _ => ⟨g2, rfl, g1, g3, g5⟩⟩

set_option maxRecDepth 100000 in
set_option maxHeartbeats 3200000 in
theorem sec21 (D : Inp) (V : Var) (A : Role → Nat) (cv : Value) (cap xcap : Nat) (ib : Nat → Nat) (nv : Value) (w0 wS w : World) (Q : Exit → Act → World → Prop) (f : Nat → Value) (hD : InpAt D w0) (hnil : D.na = none → D.nn = 0 ∧ D.nc = 0) (sl : Sl2 D V A cap f) (h27 : f 27 = .int .i64 ((clOf D (D.on + 1)).length : Nat)) (h34 : f 34 = nv) (hrd : Rd D V A cv xcap (D.on + 1) w0 wS) (hnt : Nt D wS.heap.size ib nv D.nn w) (hBw : Below wS.heap.size wS w)
    (h : ∀ f' w' A' S' lx nv2 cy2 ob, Sl3 D V A' cap nv nv2 cy2 ob f' → Aft D V A' S' lx cv xcap ib nv nv2 cy2 ob w0 w' → WpT 26 Q f' w') : WpT 21 Q f w := by
  have HH := hid h
  have HD := hid hD
  have hrw := hrd.below hBw
  have hB0 : w0.heap.size ≤ wS.heap.size := hrd.rep.base
  obtain ⟨na', nc', rfl, hnaN⟩ := hnt.val (fun e => (hnil e).1)
  have hvl := vall_lt hrw.vars hrw.arr
  have m7 : V.e7 < w.heap.size := hvl _ (by simp [Var.all])
  have z0 : w.cell? ⟨V.e7, 0, none⟩ = some (.int .i64 D.step) := cell_of hrw.vars.e7 0
  have z1 : w.cell? ⟨V.e7, 1, none⟩ = some (.int .u8 D.kind) := cell_of hrw.vars.e7 1
  have z2 : w.cell? ⟨V.e7, 2, none⟩ = some (.int .i64 D.txn) := cell_of hrw.vars.e7 2
  have z3 : w.cell? ⟨V.e7, 3, none⟩ = some (.string D.item) := cell_of hrw.vars.e7 3
  have z4 : w.cell? ⟨V.e7, 4, none⟩ = some (.string D.expr) := cell_of hrw.vars.e7 4
  have z5 : w.cell? ⟨V.e7, 5, none⟩ = some (.int .u8 D.dec) := cell_of hrw.vars.e7 5
  obtain ⟨tcs, t1, t2, t3⟩ := hrw.arr.tx
  have ztx : w.cell? ⟨V.tx, 0, none⟩ = some (ptr (A (.U 0))) := (cell_of t1 0).trans (t3 0 (by omega))
  have mtx : V.tx < w.heap.size := hvl _ (by simp [Var.all])
  have hon0 : (0 : Int) < (D.on : Int) + 1 := by omega
  have hc8 := cloneN_any D ib na' nc' w hD.nnB (fun e => ⟨(hnil (hnaN.1 e)).1, by have := hnt.nil (hnaN.1 e); injection this⟩) (fun b hb => by
    subst hb
    rcases hnt.own.2 with ⟨e, _⟩ | ⟨g, c, cur, e, _, hh, _⟩
    · cases e
    · cases e; exact (Array.getElem?_eq_some_iff.1 hh).1) (fun b j hb hj => by
    obtain ⟨g, c, e, hg, hN⟩ := hnt.at_ (by omega)
    subst hb
    cases e
    have : (⟨g, 0, none⟩ : Addr).add j = ⟨g, j, none⟩ := by simp [Addr.add]; omega
    rw [this]
    exact hN.cell j hj)
  have H8 := hid hc8
  have hc9 : ∀ w', Below w.heap.size w w' → _ := fun w' hb => cloneI_any D w' hD.cnB hD.cycLen hD.cycNil (fun b hb' => by have := hD.cycLt b hb'; have := hB0; have := hBw.size; have := hb.size; omega) (fun k x hx => by
    obtain ⟨a, ha, hab, hc⟩ := hD.cyc k x hx
    refine ⟨a, ha, ?_⟩
    have e1 : (a.add k).block < w0.heap.size := by rw [add_block]; exact hab
    rw [hb.cell (by have := hBw.size; omega), hrw.old.cell e1]
    exact hc)
  have H9 := hid hc9
  have H27 := hid h27
  have HRS := hid hrd
  have HRD := hid hrw
  have HNT := hid hnt
  have HBW := hid hBw
  clear h hD hrd hrw hnt hBw hc8 hc9 h27 t1 t3
  refine sect 21 5 (by kernel_rfl) (by kernel_rfl) ?_
  intro r hr
  have HR := hid hr
  clear hr
  show (Code.seq _ (Code.seq _ (Code.seq _ (Code.seq _ (Code.seq _ r))))).wp Yba.prog Q _ _
  unfold frm
  rw [sl.s1, sl.s7, sl.s18, sl.s24, h34]
  unfold ptr
  unfold ptr at ztx
  go_upto_region 63 with (go_at_call 8; refine H8.out.mono ?_; rintro e Wa ⟨a2, c2, rfl, hBa, hxa⟩; have HBa := hid hBa; have HXa := hid hxa; clear hBa hxa)
  go_upto_region 64 with (go_at_call 9; refine (H9.out Wa HBa.out).mono ?_; rintro e Wb ⟨a3, c3, rfl, hBb, hxb⟩; have HBb := hid hBb; have HXb := hid hxb; clear hBb hxb)
  have hBb1 : Below w.heap.size w Wb := HBa.out.trans ⟨HBb.out.os, HBb.out.tape, HBb.out.output, HBb.out.size, fun k hk => HBb.out.block k (by have := HBa.out.size; omega)⟩
  have y0 := (hBb1.cell (p := ⟨V.e7, 0, none⟩) m7).trans z0
  have y1 := (hBb1.cell (p := ⟨V.e7, 1, none⟩) m7).trans z1
  have y2 := (hBb1.cell (p := ⟨V.e7, 2, none⟩) m7).trans z2
  have y3 := (hBb1.cell (p := ⟨V.e7, 3, none⟩) m7).trans z3
  have y4 := (hBb1.cell (p := ⟨V.e7, 4, none⟩) m7).trans z4
  have y5 := (hBb1.cell (p := ⟨V.e7, 5, none⟩) m7).trans z5
  have hsb : w.heap.size ≤ Wb.heap.size := hBb1.size
  have m7b : V.e7 < Wb.heap.size := by omega
  have hlt7 : ¬ Wb.heap.size = V.e7 := by omega
  have HB := hid hBb1
  clear hBb1 z0 z1 z2 z3 z4 z5
  go_upto_region 66 with fail
  generalize hWc : (Wb.alloc _).alloc _ = Wc
  have hsc : Wc.heap.size = Wb.heap.size + 2 := by rw [← hWc]; simp
  have hBc : Below w.heap.size w Wc := by
    rw [← hWc]
    exact (HB.out.alloc hsb _).alloc (by simp; omega) _
  have oldc : ∀ b, b < Wb.heap.size → Wc.heap[b]? = Wb.heap[b]? := fun b hb => by rw [← hWc, heap_alloc_old _ _ (by simp; omega), heap_alloc_old _ _ hb]
  have opc : Wc.heap[Wb.heap.size]? = some (.cells #[.int .u8 D.kind, .int .i64 D.txn, .string D.item, .string D.expr] 113 (0, 0)) := by
    rw [← hWc, heap_alloc_old _ _ (by simp)]; exact heap_alloc_new _ _
  have evc : Wc.heap[Wb.heap.size + 1]? = some (.cells #[.int .i64 D.step, .int .u8 D.kind, .int .i64 D.txn, .string D.item, .string D.expr, .int .u8 D.dec, .slice na' D.nn nc'] 129 (0, 0)) := by
    rw [← hWc]; exact heap_alloc2_new _ _ _
  have ctx : Wc.cell? ⟨V.tx, 0, none⟩ = some (.pointer (some ⟨A (.U 0), 0, none⟩)) := (hBc.cell (p := ⟨V.tx, 0, none⟩) mtx).trans ztx
  have e0 : Wc.cell? ⟨Wb.heap.size + 1, 0, none⟩ = some (.int .i64 D.step) := cell_of evc 0
  have e1 : Wc.cell? ⟨Wb.heap.size + 1, 1, none⟩ = some (.int .u8 D.kind) := cell_of evc 1
  have e2 : Wc.cell? ⟨Wb.heap.size + 1, 2, none⟩ = some (.int .i64 D.txn) := cell_of evc 2
  have e3 : Wc.cell? ⟨Wb.heap.size + 1, 3, none⟩ = some (.string D.item) := cell_of evc 3
  have e4 : Wc.cell? ⟨Wb.heap.size + 1, 4, none⟩ = some (.string D.expr) := cell_of evc 4
  have e5 : Wc.cell? ⟨Wb.heap.size + 1, 5, none⟩ = some (.int .u8 D.dec) := cell_of evc 5
  have e6 : Wc.cell? ⟨Wb.heap.size + 1, 6, none⟩ = some (.slice na' D.nn nc') := cell_of evc 6
  have hab : ∀ Wx, Wx.heap = Wc.heap → Below w.heap.size w Wx → Calls Yba.prog 10 #[.pointer (some ⟨A .st, 0, none⟩), .pointer (some ⟨A (.U 0), 0, none⟩), .agg #[.int .i64 D.step, .int .u8 D.kind, .int .i64 D.txn, .string D.item, .string D.expr, .int .u8 D.dec, .slice na' D.nn nc'], .slice D.ca D.cn D.cc] Wx fun e W' => e = .returned (.tuple #[]) ∧
      (W'.cell? ⟨V.tx, 0, none⟩ = some (.pointer (some ⟨A (.U 0), 0, none⟩)) ∧ W'.cell? ⟨Wb.heap.size + 1, 0, none⟩ = some (.int .i64 D.step) ∧ W'.cell? ⟨Wb.heap.size + 1, 1, none⟩ = some (.int .u8 D.kind) ∧ W'.cell? ⟨Wb.heap.size + 1, 2, none⟩ = some (.int .i64 D.txn) ∧ W'.cell? ⟨Wb.heap.size + 1, 3, none⟩ = some (.string D.item) ∧ W'.cell? ⟨Wb.heap.size + 1, 4, none⟩ = some (.string D.expr) ∧ W'.cell? ⟨Wb.heap.size + 1, 5, none⟩ = some (.int .u8 D.dec) ∧ W'.cell? ⟨Wb.heap.size + 1, 6, none⟩ = some (.slice na' D.nn nc')) ∧
      ∃ A' S' lx, (∀ r, dom (envOf D (D.on + 1) cv xcap) (sys0 D) r → A' r = A r) ∧ Aft D V A' S' lx cv xcap ib (.slice na' D.nn nc') (.slice a2 D.nn c2) (.slice a3 D.cn c3) Wb.heap.size w0 W' := by
    intro Wx hh hBx
    have hrd := HRD.out.below hBx
    have hnn := HD.out.nnB
    refine (aborted_any (A := A) (B := w0.heap.size) (W := Wx) (envOf D (D.on + 1) cv xcap) (sys0 D) (ntD D ib) (.slice na' D.nn nc') D.nn (clOf D (D.on + 1)) hrd.rep (Nat.succ_pos _) (fun _ => rfl) (fun _ => rfl) rfl rfl (fun w2 hb => kept_law HNT.out hnn w2 (hBx.trans ⟨hb.os, hb.tape, hb.output, hb.size, fun b hlb => hb.block b (by have := hBx.size; omega)⟩)) D.ca D.cn D.cc rfl (clOf_mem D _) (clOf_nodup D _) (by have := clOf_len D (D.on + 1); have := HD.out.onB; omega) (cv_at hrd)).mono ?_
    rintro e W' ⟨rfl, A1, A', S', lx', wc, a, c, hmid, hcas, hab, hchg, hn0, hn1⟩
    have hF := HRD.out.rep.rep
    have hbl : ∀ b, b < Wx.heap.size → (∀ r, dom (envOf D (D.on + 1) cv xcap) (sys0 D) r → A r ≠ b) → W'.heap[b]? = Wx.heap[b]? := hchg.block
    have hfr : ∀ b, w.heap.size ≤ b → ∀ r, dom (envOf D (D.on + 1) cv xcap) (sys0 D) r → A r ≠ b := fun b hb r hr => by have := (hF.dom r hr).2; omega
    have hva : ∀ b ∈ V.all, ∀ r, dom (envOf D (D.on + 1) cv xcap) (sys0 D) r → A r ≠ b := fun b hb r hr e => HRD.out.apart.role r hr (by rw [e]; exact hb)
    have hsx : Wx.heap.size = Wc.heap.size := by rw [hh]
    have keepv : ∀ b ∈ V.all, W'.heap[b]? = w.heap[b]? := fun b hb => (hbl b (by have := hvl b hb; omega) (hva b hb)).trans (hBx.block b (hvl b hb))
    have keepn : ∀ b, w.heap.size ≤ b → b < Wc.heap.size → W'.heap[b]? = Wc.heap[b]? := fun b h1 h2 => (hbl b (by omega) (hfr b h1)).trans (by rw [hh])
    have keepo : ∀ b, wS.heap.size ≤ b → b < w.heap.size → W'.heap[b]? = w.heap[b]? := by
      intro b h1 h2
      refine (hbl b (by omega) (fun r hr e => ?_)).trans (hBx.block b h2)
      have := (HRS.out.rep.rep.dom r hr).2
      omega
    have hev : W'.heap[Wb.heap.size + 1]? = some (.cells #[.int .i64 D.step, .int .u8 D.kind, .int .i64 D.txn, .string D.item, .string D.expr, .int .u8 D.dec, .slice na' D.nn nc'] 129 (0, 0)) := (keepn _ (by omega) (by omega)).trans evc
    have htx : W'.cell? ⟨V.tx, 0, none⟩ = some (.pointer (some ⟨A (.U 0), 0, none⟩)) := by
      rw [← ztx]
      simp only [World.cell?, keepv V.tx (by simp [Var.all])]
    refine ⟨rfl, ⟨htx, cell_of hev 0, cell_of hev 1, cell_of hev 2, cell_of hev 3, cell_of hev 4, cell_of hev 5, cell_of hev 6⟩, A', S', lx', hmid.agree, ?_⟩
    have hsz' : Wx.heap.size ≤ W'.heap.size := hchg.size
    refine ⟨hmid.rep, ⟨a, c, hmid.did, ?_, hn1⟩, hcas.trans (by show wrap64 (0 + 1) = 1; unfold wrap64; omega), hab, HRD.out.vars.keep (fun b hb _ _ _ => keepv b hb) HRD.out.apart.nodup, ?_, ⟨na', nc', rfl, hnaN⟩, ?_, ?_, ?_, (keepn _ (by omega) (by omega)).trans opc, ?_⟩
    · intro e
      obtain ⟨c0, hc0⟩ := hn0 e
      exact ⟨c0, hc0⟩
    · refine (HRD.out.arr.keep keepv).agree (fun i hi => hmid.agree (.U i) hi) (fun i hi hw => hmid.agree (.Wt i) ⟨hi, hw⟩)
    · intro h0
      obtain ⟨g, c', e, hg, hN⟩ := HNT.out.at_ h0
      refine ⟨g, c', e, ?_⟩
      have hgl := hN.lt
      refine ⟨by have := hBx.size; omega, fun k hk => ?_, fun k hk hp => ?_⟩
      · rw [← hN.cell k hk]
        simp only [World.cell?, keepo g hg hgl]
      · obtain ⟨p1, p2, p3⟩ := HNT.out.ptr k hk hp
        have hl := (Array.getElem?_eq_some_iff.1 p2).1
        have hp' := (keepo _ p1 hl).trans p2
        exact ⟨(Array.getElem?_eq_some_iff.1 hp').1, cell_of hp' 0, cell_of hp' 1⟩
    · intro h0
      obtain ⟨g, rfl, g1, g2, g3⟩ := HXa.out h0
      refine ⟨g, c2, rfl, fun j hj => ?_⟩
      have hgb : g < Wb.heap.size := by have := HBb.out.size; omega
      rw [← g3 j hj]
      have e1 : W'.heap[g]? = Wa.heap[g]? := by rw [keepn g g1 (by omega), oldc g hgb, HBb.out.block g g2]
      simp only [World.cell?, e1]
    · refine ⟨a3, c3, rfl, fun k x hx => ?_⟩
      obtain ⟨g, rfl, g1, g2, g3⟩ := HXb.out k x hx
      refine ⟨_, rfl, ?_⟩
      have : (⟨g, 0, none⟩ : Addr).add k = ⟨g, k, none⟩ := by simp [Addr.add]; omega
      rw [this, ← g3]
      have e1 : W'.heap[g]? = Wb.heap[g]? := by rw [keepn g (by have := HBa.out.size; omega) (by omega), oldc g g2]
      simp only [World.cell?, e1]
    · refine hrd.old.trans ⟨hchg.os, hchg.output, hsz', fun b hb => hbl b (by have := hrd.rep.base; omega) (fun r hr e => ?_)⟩
      have := (hF.dom r hr).1
      omega
  have HAB := hid hab
  have HBC := hid hBc
  clear hab hWc hBc oldc opc evc
  go_region_held3 (fun w' => w'.cell? ⟨V.tx, 0, none⟩ = some (.pointer (some ⟨A (.U 0), 0, none⟩)) ∧ w'.cell? ⟨Wb.heap.size + 1, 0, none⟩ = some (.int .i64 D.step) ∧ w'.cell? ⟨Wb.heap.size + 1, 1, none⟩ = some (.int .u8 D.kind) ∧ w'.cell? ⟨Wb.heap.size + 1, 2, none⟩ = some (.int .i64 D.txn) ∧ w'.cell? ⟨Wb.heap.size + 1, 3, none⟩ = some (.string D.item) ∧ w'.cell? ⟨Wb.heap.size + 1, 4, none⟩ = some (.string D.expr) ∧ w'.cell? ⟨Wb.heap.size + 1, 5, none⟩ = some (.int .u8 D.dec) ∧ w'.cell? ⟨Wb.heap.size + 1, 6, none⟩ = some (.slice na' D.nn nc'))
    (first | exact HSS.out | go_keep)
    ((go_at_call 10; refine (HAB.out _ (by rfl) (by first | exact HBC.out | exact HBC.out.drew)).mono ?_; rintro e W' ⟨rfl, hss, A', S', lx, hagree, haft⟩; have HSS := hid hss; have HAG := hid hagree; have HAF := hid haft; clear hss hagree haft))
  go_wp2_with fail
  refine leave HR _ (by rfl) ?_
  intro f' hf'
  have g := HAG.out
  refine HH.out f' W' A' S' lx _ _ _ ⟨⟨hf' 1, hf' 7, (hf' 11).trans sl.s11, (hf' 12).trans sl.s12, (hf' 13).trans sl.s13, (hf' 15).trans sl.s15, ?_, ?_, ?_, (hf' 19).trans sl.s19, ?_, (hf' 23).trans sl.s23, hf' 24, (hf' 25).trans sl.s25, (hf' 26).trans sl.s26⟩, (hf' 27).trans H27.out, hf' 34, hf' 38, hf' 39, hf' 40⟩ HAF.out
  · rw [g .sch trivial]; exact (hf' 16).trans sl.s16
  · rw [g .vs trivial]; exact (hf' 17).trans sl.s17
  · rw [g .st trivial]; exact hf' 18
  · rw [g .log trivial]; exact (hf' 22).trans sl.s22
end Go.Proofs.Ybulkedxc
