/-
  LawS6515BWhole: statement 17: the transactions: the states of a round.
-/
import Derived.Test.YbulkedxcNy
import Derived.Test.YbulkedxcS9
namespace Go.Proofs.Ybulkedxc
open Go.RowKit
attribute [local simp] setO_size setT_same
set_option linter.unusedSimpArgs false
set_option linter.unusedVariables false
set_option linter.unnecessarySimpa false

def setOpt (mk b : Nat) : Option Nat := if bitsOf mk = [] then none else some b
theorem setVal_eq (mk b : Nat) : setVal mk b = .map (setOpt mk b) := by unfold setVal setOpt; split <;> rfl
theorem set_any (mk : Nat) (hm : mk < 256) (w : World) : Calls Yba.prog 6 #[.int .u8 mk, .agg #[.string (nm 0), .string (nm 1), .string (nm 2), .string (nm 3)]] w fun e w' => e = .returned (.map (setOpt mk (w.heap.size + 1))) ∧ Below w.heap.size w w' ∧ (bitsOf mk ≠ [] → w'.heap[w.heap.size + 1]? = some (.map (setEnts mk) (bitsOf mk).length)) := by
  by_cases h : bitsOf mk = []
  · refine (set_nil mk hm h _ w).mono ?_
    rintro e w' ⟨rfl, hB⟩
    exact ⟨by unfold setOpt; rw [if_pos h], hB, fun h' => absurd h h'⟩
  · refine (set_some mk hm h w).mono ?_
    rintro e w' ⟨rfl, hB, _, hx⟩
    exact ⟨by unfold setOpt; rw [if_neg h], hB, fun _ => hx⟩

/-- those of the first k that cascade -/
def clOf (D : Inp) (k : Nat) : List Nat := (List.range k).filter fun i => !(i == 0) && (D.sp i).casc
/-- the stand-in's list of them -/
structure Cv (D : Inp) (V : Var) (A : Role → Nat) (E : Env) (S : Sys) (B : Nat) (cv : Value) (k : Nat) (w : World) : Prop where
  own : w.ownsRow B 3 1 cv (clOf D k).length ((clOf D k).map fun i : Nat => Value.int .i64 ((i : Int) + 1))
  var : ∀ b, cv.ownBlock = some b → b ∉ V.all
  role : ∀ b, cv.ownBlock = some b → ∀ r, dom E S r → A r ≠ b

/-- the state ahead of round k -/
structure Rd (D : Inp) (V : Var) (A : Role → Nat) (cv : Value) (xcap k : Nat) (w0 w : World) : Prop where
  vars : Vars D V w
  arr : Arr D V A k w
  rep : Rep A (envOf D k cv xcap) (sys0 D) [] w0.heap.size w
  apart : Apart V A (envOf D k cv xcap) (sys0 D) w0.heap.size
  cv : Cv D V A (envOf D k cv xcap) (sys0 D) w0.heap.size cv k w
  old : Old w0.heap.size w0 w

/-- transaction k as far as it is made; H: the heap's size ahead of the round -/
structure Ra (D : Inp) (A : Role → Nat) (H k c1 c2 c3 : Nat) (isW isP : Bool) (wt rm wm ch pn pl : Nat) (W : World) : Prop where
  sp : W.heap[H]? = some (.cells (spA (D.sp k)) 27 (0, 0))
  ux : W.heap[H + 1]? = some (.cells (uA D A k wt rm wm pn pl (.slice none 0 0) (.map none) isW isP) 107 (0, 0))
  wx : isW = true → (∃ x4 x7, W.heap[wt]? = some (.cells (wA D k ch x4 x7) 116 (0, 0))) ∧ W.heap[ch]? = some (.chan 0 #[] false 0 0 false)
  rx : bitsOf (D.sp k).rd ≠ [] → W.heap[rm]? = some (.map (setEnts (D.sp k).rd) (bitsOf (D.sp k).rd).length)
  wmx : bitsOf (D.sp k).wr ≠ [] → W.heap[wm]? = some (.map (setEnts (D.sp k).wr) (bitsOf (D.sp k).wr).length)
  px : isP = true → W.heap[pn]? = some (.cells #[.int .i64 ((k : Int) + 1)] 3 (0, 0)) ∧ W.heap[pl]? = some (.cells #[ptr (A .log)] 110 (0, 0))
  h1 : H + 1 < c1
  h2 : c1 ≤ c2
  h3 : c2 ≤ c3
  h4 : c3 ≤ W.heap.size
  hr : bitsOf (D.sp k).rd ≠ [] → H + 1 < rm ∧ rm < c1
  hw : bitsOf (D.sp k).wr ≠ [] → c1 ≤ wm ∧ wm < c2
  hp : isP = true → c2 ≤ pl ∧ pl < pn ∧ pn < c3
  hc : isW = true → c3 ≤ ch ∧ ch < wt
/-- what lies at H + 1 turns; new blocks come; the others from H on stay -/
theorem Ra.turn {D : Inp} {A : Role → Nat} {H k c1 c2 c3 : Nat} {isW isP isW' isP' : Bool} {wt rm wm ch pn pl wt' ch' pn' pl' c3' : Nat} {W W' : World} (h : Ra D A H k c1 c2 c3 isW isP wt rm wm ch pn pl W)
    (hb : ∀ b, H ≤ b → b < W.heap.size → b ≠ H + 1 → W'.heap[b]? = W.heap[b]?) (hs : W.heap.size ≤ W'.heap.size)
    (ux : W'.heap[H + 1]? = some (.cells (uA D A k wt' rm wm pn' pl' (.slice none 0 0) (.map none) isW' isP') 107 (0, 0)))
    (wx : isW' = true → (∃ x4 x7, W'.heap[wt']? = some (.cells (wA D k ch' x4 x7) 116 (0, 0))) ∧ W'.heap[ch']? = some (.chan 0 #[] false 0 0 false))
    (px : isP' = true → W'.heap[pn']? = some (.cells #[.int .i64 ((k : Int) + 1)] 3 (0, 0)) ∧ W'.heap[pl']? = some (.cells #[ptr (A .log)] 110 (0, 0)))
    (h3 : c2 ≤ c3') (h4 : c3' ≤ W'.heap.size) (hp : isP' = true → c2 ≤ pl' ∧ pl' < pn' ∧ pn' < c3') (hc : isW' = true → c3' ≤ ch' ∧ ch' < wt') :
    Ra D A H k c1 c2 c3' isW' isP' wt' rm wm ch' pn' pl' W' := by
  have q1 := h.h1
  have q2 := h.h2
  have q3 := h.h3
  have q4 := h.h4
  refine ⟨(hb H (by omega) (by omega) (by omega)).trans h.sp, ux, wx, fun e => ?_, fun e => ?_, px, h.h1, h.h2, h3, h4, h.hr, h.hw, hp, hc⟩
  · have := h.hr e
    exact (hb rm (by omega) (by omega) (by omega)).trans (h.rx e)
  · have := h.hw e
    exact (hb wm (by omega) (by omega) (by omega)).trans (h.wmx e)
theorem Ra.park {D : Inp} {A : Role → Nat} {H k c1 c2 : Nat} {wt rm wm ch pn pl : Nat} {W : World} (h : Ra D A H k c1 c2 W.heap.size false false wt rm wm ch pn pl W) :
    Ra D A H k c1 c2 (W.heap.size + 2) false true wt rm wm ch (W.heap.size + 1) W.heap.size (((W.alloc (.cells #[ptr (A .log)] 110)).alloc (.cells #[.int .i64 ((k : Int) + 1)] 3)).setCell ⟨H + 1, 10, none⟩ (.func (.func 14) #[] #[ptr (W.heap.size + 1), ptr W.heap.size])) := by
  have q1 := h.h1
  have q2 := h.h2
  have q3 := h.h3
  have q4 := h.h4
  have hu : ((W.alloc (.cells #[ptr (A .log)] 110)).alloc (.cells #[.int .i64 ((k : Int) + 1)] 3)).heap[H + 1]? = some (.cells (uA D A k wt rm wm pn pl (.slice none 0 0) (.map none) false false) 107 (0, 0)) := by
    rw [heap_alloc_old _ _ (by simp; omega), heap_alloc_old _ _ (by omega)]; exact h.ux
  refine h.turn (fun b h1 h2 h3 => ?_) (by simp; omega) ?_ (fun e => by cases e) (fun _ => ⟨?_, ?_⟩) (by omega) (by simp) (fun _ => ⟨by omega, by omega, by omega⟩) (fun e => by cases e)
  · rw [heap_setCell_ne _ h3, heap_alloc_old _ _ (by simp; omega), heap_alloc_old _ _ h2]
  · exact heap_setCell_at _ hu
  · rw [heap_setCell_ne _ (by omega)]
    have := heap_alloc_new (W.alloc (.cells #[ptr (A .log)] 110)) (.cells #[.int .i64 ((k : Int) + 1)] 3)
    simpa using this
  · rw [heap_setCell_ne _ (by omega), heap_alloc_old _ _ (by simp)]
    exact heap_alloc_new _ _

theorem make_chan (w : World) : (Instr.makeChan 114 (.int .i64 0)).run Yba.prog w = .ok (.chan (some w.heap.size)) (w.alloc (.chan 0 #[] false 0 0 false)) := by kernel_rfl
/-- the frame's slots inside a round -/
structure SlR (D : Inp) (V : Var) (A : Role → Nat) (cap k H : Nat) (f : Nat → Value) : Prop where
  sl : Sl2 D V A cap f
  s27 : f 27 = .int .i64 ((clOf D k).length : Nat)
  s28 : f 28 = .int .i64 k
  s29 : f 29 = ptr H
  s30 : f 30 = .int .i64 ((k : Int) + 1)
  s31 : f 31 = ptr (H + 1)

/-- into a loop, a block -/
def down : Code → Code
  | .loop c => c
  | .block _ c => c
  | .scope c => c
  | c => c
def fst_ : Code → Code
  | .seq a _ => a
  | c => c
def snd_ : Code → Code
  | .seq _ b => b
  | c => c
theorem run_piece {c : Code} {M : Act → World → Prop} {Q : Exit → Act → World → Prop} {a : Act} {w : World} (h : c.wp Yba.prog (Exit.then M fun _ _ _ => False) a w) (hM : ∀ a w, M a w → Q .normal a w) : c.wp Yba.prog Q a w :=
  wp_mono h (fun e a w q => by cases e <;> first | exact hM _ _ q | exact q.elim)
theorem seq_piece {x y : Code} {M : Act → World → Prop} {Q : Exit → Act → World → Prop} {a : Act} {w : World} (h : x.wp Yba.prog (Exit.then M fun _ _ _ => False) a w) (hy : ∀ a w, M a w → y.wp Yba.prog Q a w) : (x.seq y).wp Yba.prog Q a w :=
  wp_seq (run_piece h (fun a w m => hy a w m))

/-- the old blocks behind the wait -/
structure Rb (D : Inp) (V : Var) (A : Role → Nat) (k : Nat) (cv : Value) (xcap wt : Nat) (w1 W : World) : Prop where
  os : W.os = w1.os
  output : W.output = w1.output
  size : w1.heap.size ≤ W.heap.size
  keep : ∀ b, b < w1.heap.size → b ≠ A .wait → b ≠ V.wt → W.heap[b]? = w1.heap[b]?
  wait : W.heap[A .wait]? = some (cond (D.sp k).wait (.map ((((List.range k).filter fun i => (D.sp i).wait).map (waitE A (envOf D k cv xcap))).toArray.push (ent (((k : Int) + 1) * 10) (ptr (w1.heap.size + 1)) (rank (envOf D k cv xcap) k))) (rank (envOf D k cv xcap) k + 1)) (.map (((List.range k).filter fun i => (D.sp i).wait).map (waitE A (envOf D k cv xcap))).toArray (rank (envOf D k cv xcap) k)))
  arr : ∃ cs, W.heap[V.wt]? = some (.cells cs 99 (0, 0)) ∧ cs.size = D.on + 1 ∧ (∀ i, i < k → cs[i]? = some (cond (D.sp i).wait (ptr (A (.Wt i))) (.pointer none))) ∧ cs[k]? = some (cond (D.sp k).wait (ptr wt) (.pointer none)) ∧ ∀ i, k + 1 ≤ i → i < D.on + 1 → cs[i]? = some (.pointer none)
/-- behind the wait -/
def M3 (D : Inp) (V : Var) (A : Role → Nat) (cap k : Nat) (cv : Value) (xcap : Nat) (w1 : World) (c1 c2 rm wm pn pl : Nat) : Act → World → Prop := fun a W =>
  ∃ f c3 wt ch, a = ⟨frm f, []⟩ ∧ SlR D V A cap k w1.heap.size f ∧ Ra D A w1.heap.size k c1 c2 c3 (D.sp k).wait (D.sp k).park wt rm wm ch pn pl W ∧ Rb D V A k cv xcap wt w1 W
/-- behind the round's body -/
def M4 (D : Inp) (V : Var) (cap xcap k : Nat) (w0 : World) : Act → World → Prop := fun a W =>
  ∃ f A cv, a = ⟨frm f, []⟩ ∧ Sl2 D V A cap f ∧ f 27 = .int .i64 ((clOf D (k + 1)).length : Nat) ∧ f 28 = .int .i64 k ∧ Rd D V A cv xcap (k + 1) w0 W
theorem live_obj {D : Inp} {A : Role → Nat} {k B xcap : Nat} {cv : Value} {w : World} (h : Rep A (envOf D k cv xcap) (sys0 D) [] B w) : w.heap[A .live]? = some (.map ((List.range k).map (liveE A)).toArray k) := by
  have := (h.rep.obj .live _ rfl).2
  rw [liveL_sys0] at this
  exact this
theorem wait_obj {D : Inp} {A : Role → Nat} {k B xcap : Nat} {cv : Value} {w : World} (h : Rep A (envOf D k cv xcap) (sys0 D) [] B w) : w.heap[A .wait]? = some (.map (((List.range k).filter fun i => (D.sp i).wait).map (waitE A (envOf D k cv xcap))).toArray (rank (envOf D k cv xcap) k)) := by
  have := (h.rep.obj .wait _ rfl).2
  rw [waitL_sys0] at this
  exact this
end Go.Proofs.Ybulkedxc
