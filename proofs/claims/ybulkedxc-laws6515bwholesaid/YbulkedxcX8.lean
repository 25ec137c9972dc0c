/-
  LawS6515BWhole: the last statements.
-/
import Derived.Test.YbulkedxcX1
namespace Go.Proofs.Ybulkedxc
open Go.RowKit
attribute [local simp] setO_size setT_same
set_option linter.unusedSimpArgs false
set_option linter.unusedVariables false
set_option linter.unnecessarySimpa false

theorem len_map (r : Nat) (es : Array MapEntry) (c : Nat) (w : World) (h : w.heap[r]? = some (.map es c)) : (Builtin.len_ #[41] 3 #[.map (some r)]).run Yba.prog w = .ok (.int .i64 (es.size : Nat)) w := by
  simp [Builtin.len_, run_underlying Yba.underlying41, MapKept.run_getObj_map h, goInt]
/-- a row of ints as a slice -/
theorem row_slice {w : World} {B n : Nat} {v : Value} {xs : List Int} (h : w.ownsRow B 3 1 v n (xs.map (Value.int .i64))) : ∃ a c, v = .slice a n c ∧ xs.length = n ∧ ∀ k x, xs[k]? = some x → ∃ p, a = some p ∧ w.cell? (p.add k) = some (.int .i64 x) := by
  obtain ⟨h1, h2⟩ := h
  have hl : xs.length = n := by simpa using h1
  rcases h2 with ⟨h3, h4⟩ | ⟨g, cap, cur, h3, _, hheap, hnc, _, hsz, htk⟩
  · subst h4
    exact ⟨none, 0, h3, hl, fun k x e => by have := (List.getElem?_eq_some_iff.1 e).1; omega⟩
  · refine ⟨_, cap, h3, hl, fun k x e => ⟨_, rfl, ?_⟩⟩
    have hk := (List.getElem?_eq_some_iff.1 e).1
    have : (⟨g, 0, none⟩ : Addr).add k = ⟨g, k, none⟩ := by simp [Addr.add]; omega
    rw [this, cell_of hheap]
    have h5 : cur[k]? = (xs.map (Value.int .i64))[k]? := by
      rw [← htk, List.getElem?_take_of_lt (by omega)]
      simp
    rw [h5, List.getElem?_map, e]
    rfl

set_option maxRecDepth 100000 in
set_option maxHeartbeats 3200000 in
theorem sec38 (D : Inp) (V : Var) (A : Role → Nat) (S : Sys) (lx : List Int) (cv : Value) (cap xcap : Nat) (ib : Nat → Nat) (nv nv2 cy2 : Value) (ob : Nat) (ev : Value) (w0 W w : World) (Q : Exit → Act → World → Prop) (f : Nat → Value) (hD : InpAt D w0) (sl : Sl3 D V A cap nv nv2 cy2 ob f) (s51 : f 51 = .int .i64 (nlv D (D.on + 1) : Nat)) (s52 : f 52 = .int .i64 (nwt D (D.on + 1) : Nat)) (s53 : f 53 = ev) (hev : Ev D W.heap.size ev (D.on + 1) w) (ha : Aft D V A S lx cv xcap ib nv nv2 cy2 ob w0 W) (hb : Below W.heap.size W w)
    (h : ∀ f' m, f' 14 = .bool true → Q .ret ⟨frm f', []⟩ (w.drewN m)) : WpT 38 Q f w := by
  have HH := hid h
  have z110 : w.cell? ⟨A .st, 110, none⟩ = some (.map (some (A .live))) := ha.at_ hb .st 110 _ rfl
  have z112 : w.cell? ⟨A .st, 112, none⟩ = some (.map (some (A .wait))) := ha.at_ hb .st 112 _ rfl
  have zlg : w.cell? ⟨A .log, 0, none⟩ = some S.lv := ha.at_ hb .log 0 _ rfl
  have hL := ha.liveH hb
  have hW := ha.waitH hb
  have hLs : ((liveL (envOf D (D.on + 1) cv xcap) S).map (liveE A)).toArray.size = nlv D (D.on + 1) := by
    simp only [List.size_toArray, List.length_map]
    unfold liveL nlv
    congr 1
    apply List.filter_congr
    intro i hi
    have hi' : i < D.on + 1 := List.mem_range.1 hi
    rw [ha.en i hi']
  have hWs : ((waitL (envOf D (D.on + 1) cv xcap) S).map (waitE A (envOf D (D.on + 1) cv xcap))).toArray.size = nwt D (D.on + 1) := by
    simp only [List.size_toArray, List.length_map]
    unfold waitL nwt
    congr 1
    apply List.filter_congr
    intro i hi
    have hi' : i < D.on + 1 := List.mem_range.1 hi
    rw [ha.an i hi']
    show ((D.sp i).wait && !(ends D i && (D.sp i).wait)) = _
    cases ends D i <;> cases (D.sp i).wait <;> rfl
  generalize ((liveL (envOf D (D.on + 1) cv xcap) S).map (liveE A)).toArray = es1 at hL hLs
  generalize ((waitL (envOf D (D.on + 1) cv xcap) S).map (waitE A (envOf D (D.on + 1) cv xcap))).toArray = es2 at hW hWs
  obtain ⟨a0, c0, hdid, _, _⟩ := ha.did
  have hlx : lx = elog D (D.on + 1) := by rw [hdid.lx]; unfold elog; rw [endl_all]; rfl
  obtain ⟨a1, c1, hlv, hl1, hc1⟩ := row_slice ha.rep.own
  obtain ⟨a2, c2, hev2, hl2, hc2⟩ := row_slice hev
  have hel := elog_len D (D.on + 1)
  have hon := hD.onB
  rw [hlx] at hlv hl1 hc1
  have heq : ∀ w', Below W.heap.size W w' → w'.heap = w.heap → _ := fun w' hb' hh => equal_same a1 a2 (elog D (D.on + 1)).length c1 c2 (elog D (D.on + 1)) w' rfl (by omega) (fun q x hx => by
    obtain ⟨p, h1, h2⟩ := hc1 q x hx
    refine ⟨p, h1, ?_⟩
    rw [hb'.cell ?_]
    · exact h2
    · rcases Nat.lt_or_ge (p.add q).block W.heap.size with h | h
      · exact h
      · simp [World.cell?, Array.getElem?_eq_none h] at h2) (fun q x hx => by
    obtain ⟨p, h1, h2⟩ := hc2 q x hx
    refine ⟨p, h1, ?_⟩
    rw [← h2]
    simp only [World.cell?, hh])
  have HE := hid heq
  have HB := hid hb
  have l1 := len_map _ _ _ _ hL
  have l2 := len_map _ _ _ _ hW
  rw [hlv] at zlg
  rw [← hLs] at s51
  rw [← hWs] at s52
  rw [hev2] at s53
  clear h hdid hlx hlv hl1 hc1 hl2 hc2 heq hev
  refine sect 38 2 (by kernel_rfl) (by kernel_rfl) ?_
  intro r hr
  have hret : r = .ret → _ := fun e => e
  have HR := hid hr
  clear hr
  show (Code.seq _ (Code.seq _ r)).wp Yba.prog Q _ _
  unfold frm
  rw [sl.sl.s18, sl.sl.s22, s51, s52, s53]
  unfold ptr
  clear sl s51 s52 s53 hb ha hLs hWs hD hret
  go_wp2_with (go_at_call 11; refine (HE.out _ (by first | exact HB.out | exact below_drewN HB.out _) (by rfl)).mono ?_; rintro e W1 ⟨rfl, m, rfl⟩)
  refine leave HR _ (by rfl) ?_
  intro f' hf'
  unfold WpT
  show Code.ret.wp Yba.prog Q _ _
  exact wp_ret (HH.out f' m (hf' 14))
end Go.Proofs.Ybulkedxc
