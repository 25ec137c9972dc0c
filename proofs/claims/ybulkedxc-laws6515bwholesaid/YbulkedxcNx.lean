/-
  LawS6515BWhole: one transaction more.
-/
import Derived.Test.YbulkedxcVa
namespace Go.Proofs.Ybulkedxc
open Go.RowKit
attribute [local simp] setO_size setT_same
set_option linter.unusedSimpArgs false
set_option linter.unusedVariables false
set_option linter.unnecessarySimpa false

/-- the blocks with those of transaction k -/
def nextA (A : Role → Nat) (k u wt rm wm ch pn pl : Nat) : Role → Nat
  | .inr (0, i) => if i = k then u else A (.U i)
  | .inr (1, i) => if i = k then wt else A (.Wt i)
  | .inr (2, i) => if i = k then rm else A (.Rm i)
  | .inr (3, i) => if i = k then wm else A (.Wm i)
  | .inr (4, i) => if i = k then ch else A (.Ch i)
  | .inr (5, i) => if i = k then pn else A (.Pn i)
  | .inr (6, i) => if i = k then pl else A (.Pl i)
  | r => A r

def uA (D : Inp) (A : Role → Nat) (k wt rm wm pn pl : Nat) (x8 x9 : Value) (isW isP : Bool) : Array Value := #[ptr (A .st), .int .i64 ((k : Int) + 1), .nilIface, cond isW (ptr wt) (.pointer none), setVal (D.sp k).rd rm, setVal (D.sp k).wr wm, .int .i32 0, .int .i32 0, x8, x9, cond isP (.func (.func 14) #[] #[ptr pn, ptr pl]) .nilFunc]
def wA (D : Inp) (k ch : Nat) (x4 x7 : Value) : Array Value := #[.int .u8 (cond (D.sp k).ww 2 1), .int .i64 ((k : Int) + 1), .string ⟨#[120]⟩, .string ⟨#[]⟩, x4, .int .i64 (((k : Int) + 1) * 10), .bool (D.sp k).conf, x7, .chan (some ch), .int .i64 7, .nilIface]
/-- the blocks of transaction k -/
structure NextAt (D : Inp) (A : Role → Nat) (H k u wt rm wm ch pn pl : Nat) (W : World) : Prop where
  ux : ∃ x8 x9, W.heap[u]? = some (.cells (uA D A k wt rm wm pn pl x8 x9 (D.sp k).wait (D.sp k).park) 107 (0, 0))
  wx : (D.sp k).wait = true → (∃ x4 x7, W.heap[wt]? = some (.cells (wA D k ch x4 x7) 116 (0, 0))) ∧ W.heap[ch]? = some (.chan 0 #[] false 0 0 false)
  rx : bitsOf (D.sp k).rd ≠ [] → W.heap[rm]? = some (.map (setEnts (D.sp k).rd) (bitsOf (D.sp k).rd).length)
  wmx : bitsOf (D.sp k).wr ≠ [] → W.heap[wm]? = some (.map (setEnts (D.sp k).wr) (bitsOf (D.sp k).wr).length)
  px : (D.sp k).park = true → W.heap[pn]? = some (.cells #[.int .i64 ((k : Int) + 1)] 3 (0, 0)) ∧ W.heap[pl]? = some (.cells #[ptr (A .log)] 110 (0, 0))
/-- they lie one behind the other -/
structure NextOrd (D : Inp) (H k u wt rm wm ch pn pl c1 c2 c3 : Nat) : Prop where
  hu : H ≤ u
  h1 : u < c1
  h2 : c1 ≤ c2
  h3 : c2 ≤ c3
  hr : bitsOf (D.sp k).rd ≠ [] → u < rm ∧ rm < c1
  hw : bitsOf (D.sp k).wr ≠ [] → c1 ≤ wm ∧ wm < c2
  hp : (D.sp k).park = true → c2 ≤ pl ∧ pl < pn ∧ pn < c3
  hc : (D.sp k).wait = true → c3 ≤ ch ∧ ch < wt

theorem next_inj (D : Inp) (A : Role → Nat) (H k u wt rm wm ch pn pl c1 c2 c3 n : Nat) (cv : Value) (xcap : Nat) (hx : NextOrd D H k u wt rm wm ch pn pl c1 c2 c3) :
    ∀ (q q' : Fin 8), dom (envOf D n cv xcap) (sys0 D) (Sum.inr (q, k)) → dom (envOf D n cv xcap) (sys0 D) (Sum.inr (q', k)) → nextA A k u wt rm wm ch pn pl (Sum.inr (q, k)) = nextA A k u wt rm wm ch pn pl (Sum.inr (q', k)) → q = q' := by
  have h1 := hx.h1
  have h2 := hx.h2
  have h3 := hx.h3
  intro q q' hd hd' e
  exact match q, q', hd, hd', e with
    | 0, 0, _, _, _ => rfl
    | 0, 1, hd, hd', e => absurd e (by rw [show nextA A k u wt rm wm ch pn pl (Sum.inr (0, k)) = u from if_pos rfl, show nextA A k u wt rm wm ch pn pl (Sum.inr (1, k)) = wt from if_pos rfl]; have := hx.hc hd'.2; omega)
    | 0, 2, hd, hd', e => absurd e (by rw [show nextA A k u wt rm wm ch pn pl (Sum.inr (0, k)) = u from if_pos rfl, show nextA A k u wt rm wm ch pn pl (Sum.inr (2, k)) = rm from if_pos rfl]; have := hx.hr hd'.2; omega)
    | 0, 3, hd, hd', e => absurd e (by rw [show nextA A k u wt rm wm ch pn pl (Sum.inr (0, k)) = u from if_pos rfl, show nextA A k u wt rm wm ch pn pl (Sum.inr (3, k)) = wm from if_pos rfl]; have := hx.hw hd'.2; omega)
    | 0, 4, hd, hd', e => absurd e (by rw [show nextA A k u wt rm wm ch pn pl (Sum.inr (0, k)) = u from if_pos rfl, show nextA A k u wt rm wm ch pn pl (Sum.inr (4, k)) = ch from if_pos rfl]; have := hx.hc hd'.2; omega)
    | 0, 5, hd, hd', e => absurd e (by rw [show nextA A k u wt rm wm ch pn pl (Sum.inr (0, k)) = u from if_pos rfl, show nextA A k u wt rm wm ch pn pl (Sum.inr (5, k)) = pn from if_pos rfl]; have := hx.hp hd'.2; omega)
    | 0, 6, hd, hd', e => absurd e (by rw [show nextA A k u wt rm wm ch pn pl (Sum.inr (0, k)) = u from if_pos rfl, show nextA A k u wt rm wm ch pn pl (Sum.inr (6, k)) = pl from if_pos rfl]; have := hx.hp hd'.2; omega)
    | 0, 7, _, hd, _ => absurd hd.2 (by simp [sys0])
    | 1, 0, hd, hd', e => absurd e (by rw [show nextA A k u wt rm wm ch pn pl (Sum.inr (1, k)) = wt from if_pos rfl, show nextA A k u wt rm wm ch pn pl (Sum.inr (0, k)) = u from if_pos rfl]; have := hx.hc hd.2; omega)
    | 1, 1, _, _, _ => rfl
    | 1, 2, hd, hd', e => absurd e (by rw [show nextA A k u wt rm wm ch pn pl (Sum.inr (1, k)) = wt from if_pos rfl, show nextA A k u wt rm wm ch pn pl (Sum.inr (2, k)) = rm from if_pos rfl]; have := hx.hc hd.2; have := hx.hr hd'.2; omega)
    | 1, 3, hd, hd', e => absurd e (by rw [show nextA A k u wt rm wm ch pn pl (Sum.inr (1, k)) = wt from if_pos rfl, show nextA A k u wt rm wm ch pn pl (Sum.inr (3, k)) = wm from if_pos rfl]; have := hx.hc hd.2; have := hx.hw hd'.2; omega)
    | 1, 4, hd, hd', e => absurd e (by rw [show nextA A k u wt rm wm ch pn pl (Sum.inr (1, k)) = wt from if_pos rfl, show nextA A k u wt rm wm ch pn pl (Sum.inr (4, k)) = ch from if_pos rfl]; have := hx.hc hd.2; have := hx.hc hd'.2; omega)
    | 1, 5, hd, hd', e => absurd e (by rw [show nextA A k u wt rm wm ch pn pl (Sum.inr (1, k)) = wt from if_pos rfl, show nextA A k u wt rm wm ch pn pl (Sum.inr (5, k)) = pn from if_pos rfl]; have := hx.hc hd.2; have := hx.hp hd'.2; omega)
    | 1, 6, hd, hd', e => absurd e (by rw [show nextA A k u wt rm wm ch pn pl (Sum.inr (1, k)) = wt from if_pos rfl, show nextA A k u wt rm wm ch pn pl (Sum.inr (6, k)) = pl from if_pos rfl]; have := hx.hc hd.2; have := hx.hp hd'.2; omega)
    | 1, 7, _, hd, _ => absurd hd.2 (by simp [sys0])
    | 2, 0, hd, hd', e => absurd e (by rw [show nextA A k u wt rm wm ch pn pl (Sum.inr (2, k)) = rm from if_pos rfl, show nextA A k u wt rm wm ch pn pl (Sum.inr (0, k)) = u from if_pos rfl]; have := hx.hr hd.2; omega)
    | 2, 1, hd, hd', e => absurd e (by rw [show nextA A k u wt rm wm ch pn pl (Sum.inr (2, k)) = rm from if_pos rfl, show nextA A k u wt rm wm ch pn pl (Sum.inr (1, k)) = wt from if_pos rfl]; have := hx.hr hd.2; have := hx.hc hd'.2; omega)
    | 2, 2, _, _, _ => rfl
    | 2, 3, hd, hd', e => absurd e (by rw [show nextA A k u wt rm wm ch pn pl (Sum.inr (2, k)) = rm from if_pos rfl, show nextA A k u wt rm wm ch pn pl (Sum.inr (3, k)) = wm from if_pos rfl]; have := hx.hr hd.2; have := hx.hw hd'.2; omega)
    | 2, 4, hd, hd', e => absurd e (by rw [show nextA A k u wt rm wm ch pn pl (Sum.inr (2, k)) = rm from if_pos rfl, show nextA A k u wt rm wm ch pn pl (Sum.inr (4, k)) = ch from if_pos rfl]; have := hx.hr hd.2; have := hx.hc hd'.2; omega)
    | 2, 5, hd, hd', e => absurd e (by rw [show nextA A k u wt rm wm ch pn pl (Sum.inr (2, k)) = rm from if_pos rfl, show nextA A k u wt rm wm ch pn pl (Sum.inr (5, k)) = pn from if_pos rfl]; have := hx.hr hd.2; have := hx.hp hd'.2; omega)
    | 2, 6, hd, hd', e => absurd e (by rw [show nextA A k u wt rm wm ch pn pl (Sum.inr (2, k)) = rm from if_pos rfl, show nextA A k u wt rm wm ch pn pl (Sum.inr (6, k)) = pl from if_pos rfl]; have := hx.hr hd.2; have := hx.hp hd'.2; omega)
    | 2, 7, _, hd, _ => absurd hd.2 (by simp [sys0])
    | 3, 0, hd, hd', e => absurd e (by rw [show nextA A k u wt rm wm ch pn pl (Sum.inr (3, k)) = wm from if_pos rfl, show nextA A k u wt rm wm ch pn pl (Sum.inr (0, k)) = u from if_pos rfl]; have := hx.hw hd.2; omega)
    | 3, 1, hd, hd', e => absurd e (by rw [show nextA A k u wt rm wm ch pn pl (Sum.inr (3, k)) = wm from if_pos rfl, show nextA A k u wt rm wm ch pn pl (Sum.inr (1, k)) = wt from if_pos rfl]; have := hx.hw hd.2; have := hx.hc hd'.2; omega)
    | 3, 2, hd, hd', e => absurd e (by rw [show nextA A k u wt rm wm ch pn pl (Sum.inr (3, k)) = wm from if_pos rfl, show nextA A k u wt rm wm ch pn pl (Sum.inr (2, k)) = rm from if_pos rfl]; have := hx.hw hd.2; have := hx.hr hd'.2; omega)
    | 3, 3, _, _, _ => rfl
    | 3, 4, hd, hd', e => absurd e (by rw [show nextA A k u wt rm wm ch pn pl (Sum.inr (3, k)) = wm from if_pos rfl, show nextA A k u wt rm wm ch pn pl (Sum.inr (4, k)) = ch from if_pos rfl]; have := hx.hw hd.2; have := hx.hc hd'.2; omega)
    | 3, 5, hd, hd', e => absurd e (by rw [show nextA A k u wt rm wm ch pn pl (Sum.inr (3, k)) = wm from if_pos rfl, show nextA A k u wt rm wm ch pn pl (Sum.inr (5, k)) = pn from if_pos rfl]; have := hx.hw hd.2; have := hx.hp hd'.2; omega)
    | 3, 6, hd, hd', e => absurd e (by rw [show nextA A k u wt rm wm ch pn pl (Sum.inr (3, k)) = wm from if_pos rfl, show nextA A k u wt rm wm ch pn pl (Sum.inr (6, k)) = pl from if_pos rfl]; have := hx.hw hd.2; have := hx.hp hd'.2; omega)
    | 3, 7, _, hd, _ => absurd hd.2 (by simp [sys0])
    | 4, 0, hd, hd', e => absurd e (by rw [show nextA A k u wt rm wm ch pn pl (Sum.inr (4, k)) = ch from if_pos rfl, show nextA A k u wt rm wm ch pn pl (Sum.inr (0, k)) = u from if_pos rfl]; have := hx.hc hd.2; omega)
    | 4, 1, hd, hd', e => absurd e (by rw [show nextA A k u wt rm wm ch pn pl (Sum.inr (4, k)) = ch from if_pos rfl, show nextA A k u wt rm wm ch pn pl (Sum.inr (1, k)) = wt from if_pos rfl]; have := hx.hc hd.2; have := hx.hc hd'.2; omega)
    | 4, 2, hd, hd', e => absurd e (by rw [show nextA A k u wt rm wm ch pn pl (Sum.inr (4, k)) = ch from if_pos rfl, show nextA A k u wt rm wm ch pn pl (Sum.inr (2, k)) = rm from if_pos rfl]; have := hx.hc hd.2; have := hx.hr hd'.2; omega)
    | 4, 3, hd, hd', e => absurd e (by rw [show nextA A k u wt rm wm ch pn pl (Sum.inr (4, k)) = ch from if_pos rfl, show nextA A k u wt rm wm ch pn pl (Sum.inr (3, k)) = wm from if_pos rfl]; have := hx.hc hd.2; have := hx.hw hd'.2; omega)
    | 4, 4, _, _, _ => rfl
    | 4, 5, hd, hd', e => absurd e (by rw [show nextA A k u wt rm wm ch pn pl (Sum.inr (4, k)) = ch from if_pos rfl, show nextA A k u wt rm wm ch pn pl (Sum.inr (5, k)) = pn from if_pos rfl]; have := hx.hc hd.2; have := hx.hp hd'.2; omega)
    | 4, 6, hd, hd', e => absurd e (by rw [show nextA A k u wt rm wm ch pn pl (Sum.inr (4, k)) = ch from if_pos rfl, show nextA A k u wt rm wm ch pn pl (Sum.inr (6, k)) = pl from if_pos rfl]; have := hx.hc hd.2; have := hx.hp hd'.2; omega)
    | 4, 7, _, hd, _ => absurd hd.2 (by simp [sys0])
    | 5, 0, hd, hd', e => absurd e (by rw [show nextA A k u wt rm wm ch pn pl (Sum.inr (5, k)) = pn from if_pos rfl, show nextA A k u wt rm wm ch pn pl (Sum.inr (0, k)) = u from if_pos rfl]; have := hx.hp hd.2; omega)
    | 5, 1, hd, hd', e => absurd e (by rw [show nextA A k u wt rm wm ch pn pl (Sum.inr (5, k)) = pn from if_pos rfl, show nextA A k u wt rm wm ch pn pl (Sum.inr (1, k)) = wt from if_pos rfl]; have := hx.hp hd.2; have := hx.hc hd'.2; omega)
    | 5, 2, hd, hd', e => absurd e (by rw [show nextA A k u wt rm wm ch pn pl (Sum.inr (5, k)) = pn from if_pos rfl, show nextA A k u wt rm wm ch pn pl (Sum.inr (2, k)) = rm from if_pos rfl]; have := hx.hp hd.2; have := hx.hr hd'.2; omega)
    | 5, 3, hd, hd', e => absurd e (by rw [show nextA A k u wt rm wm ch pn pl (Sum.inr (5, k)) = pn from if_pos rfl, show nextA A k u wt rm wm ch pn pl (Sum.inr (3, k)) = wm from if_pos rfl]; have := hx.hp hd.2; have := hx.hw hd'.2; omega)
    | 5, 4, hd, hd', e => absurd e (by rw [show nextA A k u wt rm wm ch pn pl (Sum.inr (5, k)) = pn from if_pos rfl, show nextA A k u wt rm wm ch pn pl (Sum.inr (4, k)) = ch from if_pos rfl]; have := hx.hp hd.2; have := hx.hc hd'.2; omega)
    | 5, 5, _, _, _ => rfl
    | 5, 6, hd, hd', e => absurd e (by rw [show nextA A k u wt rm wm ch pn pl (Sum.inr (5, k)) = pn from if_pos rfl, show nextA A k u wt rm wm ch pn pl (Sum.inr (6, k)) = pl from if_pos rfl]; have := hx.hp hd.2; have := hx.hp hd'.2; omega)
    | 5, 7, _, hd, _ => absurd hd.2 (by simp [sys0])
    | 6, 0, hd, hd', e => absurd e (by rw [show nextA A k u wt rm wm ch pn pl (Sum.inr (6, k)) = pl from if_pos rfl, show nextA A k u wt rm wm ch pn pl (Sum.inr (0, k)) = u from if_pos rfl]; have := hx.hp hd.2; omega)
    | 6, 1, hd, hd', e => absurd e (by rw [show nextA A k u wt rm wm ch pn pl (Sum.inr (6, k)) = pl from if_pos rfl, show nextA A k u wt rm wm ch pn pl (Sum.inr (1, k)) = wt from if_pos rfl]; have := hx.hp hd.2; have := hx.hc hd'.2; omega)
    | 6, 2, hd, hd', e => absurd e (by rw [show nextA A k u wt rm wm ch pn pl (Sum.inr (6, k)) = pl from if_pos rfl, show nextA A k u wt rm wm ch pn pl (Sum.inr (2, k)) = rm from if_pos rfl]; have := hx.hp hd.2; have := hx.hr hd'.2; omega)
    | 6, 3, hd, hd', e => absurd e (by rw [show nextA A k u wt rm wm ch pn pl (Sum.inr (6, k)) = pl from if_pos rfl, show nextA A k u wt rm wm ch pn pl (Sum.inr (3, k)) = wm from if_pos rfl]; have := hx.hp hd.2; have := hx.hw hd'.2; omega)
    | 6, 4, hd, hd', e => absurd e (by rw [show nextA A k u wt rm wm ch pn pl (Sum.inr (6, k)) = pl from if_pos rfl, show nextA A k u wt rm wm ch pn pl (Sum.inr (4, k)) = ch from if_pos rfl]; have := hx.hp hd.2; have := hx.hc hd'.2; omega)
    | 6, 5, hd, hd', e => absurd e (by rw [show nextA A k u wt rm wm ch pn pl (Sum.inr (6, k)) = pl from if_pos rfl, show nextA A k u wt rm wm ch pn pl (Sum.inr (5, k)) = pn from if_pos rfl]; have := hx.hp hd.2; have := hx.hp hd'.2; omega)
    | 6, 6, _, _, _ => rfl
    | 6, 7, _, hd, _ => absurd hd.2 (by simp [sys0])
    | 7, 0, hd, _, _ => absurd hd.2 (by simp [sys0])
    | 7, 1, hd, _, _ => absurd hd.2 (by simp [sys0])
    | 7, 2, hd, _, _ => absurd hd.2 (by simp [sys0])
    | 7, 3, hd, _, _ => absurd hd.2 (by simp [sys0])
    | 7, 4, hd, _, _ => absurd hd.2 (by simp [sys0])
    | 7, 5, hd, _, _ => absurd hd.2 (by simp [sys0])
    | 7, 6, hd, _, _ => absurd hd.2 (by simp [sys0])
    | 7, 7, _, _, _ => rfl
end Go.Proofs.Ybulkedxc
