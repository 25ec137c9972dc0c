/-
  LawS6515BWhole: the memory by roles.
-/
import Derived.Test.YbulkedxcEnd
namespace Go.Proofs.Ybulkedxc
open Go.RowKit
attribute [local simp] setO_size

/-- what a block is for -/
abbrev Role := Sum (Fin 10) (Fin 8 × Nat)
namespace Role
abbrev st : Role := Sum.inl 0
abbrev sch : Role := Sum.inl 1
abbrev vs : Role := Sum.inl 2
abbrev live : Role := Sum.inl 3
abbrev wait : Role := Sum.inl 4
abbrev slots : Role := Sum.inl 5
abbrev long : Role := Sum.inl 6
abbrev xs : Role := Sum.inl 7
abbrev log : Role := Sum.inl 8
abbrev kn : Role := Sum.inl 9
abbrev U (i : Nat) : Role := Sum.inr (0, i)
abbrev Wt (i : Nat) : Role := Sum.inr (1, i)
abbrev Rm (i : Nat) : Role := Sum.inr (2, i)
abbrev Wm (i : Nat) : Role := Sum.inr (3, i)
abbrev Ch (i : Nat) : Role := Sum.inr (4, i)
abbrev Pn (i : Nat) : Role := Sum.inr (5, i)
abbrev Pl (i : Nat) : Role := Sum.inr (6, i)
abbrev Ae (i : Nat) : Role := Sum.inr (7, i)
theorem split {p : Role → Prop} (st : p Role.st) (sch : p Role.sch) (vs : p Role.vs) (live : p Role.live) (wait : p Role.wait) (slots : p Role.slots) (long : p Role.long) (xs : p Role.xs) (log : p Role.log) (kn : p Role.kn) (U : ∀ i, p (Role.U i)) (Wt : ∀ i, p (Role.Wt i)) (Rm : ∀ i, p (Role.Rm i)) (Wm : ∀ i, p (Role.Wm i)) (Ch : ∀ i, p (Role.Ch i)) (Pn : ∀ i, p (Role.Pn i)) (Pl : ∀ i, p (Role.Pl i)) (Ae : ∀ i, p (Role.Ae i)) (r : Role) : p r := by
  match r with
  | .inl 0 => exact st
  | .inl 1 => exact sch
  | .inl 2 => exact vs
  | .inl 3 => exact live
  | .inl 4 => exact wait
  | .inl 5 => exact slots
  | .inl 6 => exact long
  | .inl 7 => exact xs
  | .inl 8 => exact log
  | .inl 9 => exact kn
  | .inr (0, i) => exact U i
  | .inr (1, i) => exact Wt i
  | .inr (2, i) => exact Rm i
  | .inr (3, i) => exact Wm i
  | .inr (4, i) => exact Ch i
  | .inr (5, i) => exact Pn i
  | .inr (6, i) => exact Pl i
  | .inr (7, i) => exact Ae i
end Role

/-- what the roles' blocks hold: cells by m, other objects by o -/
structure RepF (A : Role → Nat) (m : Role → Nat → Option Value) (o : Role → Option Obj) (D : Role → Prop) (B : Nat) (W : World) : Prop where
  cell : ∀ r k v, m r k = some v → D r ∧ W.cell? ⟨A r, k, none⟩ = some v ∧ W.frozen? ⟨A r, k, none⟩ = false
  obj : ∀ r x, o r = some x → D r ∧ W.heap[A r]? = some x
  dom : ∀ r, D r → B ≤ A r ∧ A r < W.heap.size
  inj : ∀ r r', D r → D r' → A r = A r' → r = r'

def updm (m : Role → Nat → Option Value) (r0 : Role) (k0 : Nat) (v : Value) : Role → Nat → Option Value := fun r k => if r = r0 ∧ k = k0 then some v else m r k
def updo (o : Role → Option Obj) (r0 : Role) (x : Obj) : Role → Option Obj := fun r => if r = r0 then some x else o r

/-- of the blocks below H nothing but the roles' blocks changes -/
structure Chg (A : Role → Nat) (D : Role → Prop) (H : Nat) (W W' : World) : Prop where
  os : W'.os = W.os
  output : W'.output = W.output
  size : W.heap.size ≤ W'.heap.size
  block : ∀ b, b < H → (∀ r, D r → A r ≠ b) → W'.heap[b]? = W.heap[b]?

variable {A : Role → Nat} {m : Role → Nat → Option Value} {o : Role → Option Obj} {D : Role → Prop} {B : Nat} {W W' W'' : World}

theorem Chg.refl {H : Nat} : Chg A D H W W := ⟨rfl, rfl, Nat.le_refl _, fun _ _ _ => rfl⟩
theorem Chg.trans {H : Nat} {A' : Role → Nat} {D' : Role → Prop} (h : Chg A D H W W') (k : Chg A' D' H W' W'') (he : ∀ r, D' r → (D r ∧ A' r = A r) ∨ H ≤ A' r) : Chg A D H W W'' :=
  ⟨k.os.trans h.os, k.output.trans h.output, Nat.le_trans h.size k.size, fun b hb hr => (k.block b hb (fun r hd e => by
    rcases he r hd with ⟨h1, h2⟩ | h1
    · exact hr r h1 (h2 ▸ e)
    · omega)).trans (h.block b hb hr)⟩
theorem Chg.same {H : Nat} (h : Chg A D H W W') (k : Chg A D H W' W'') : Chg A D H W W'' := h.trans k (fun _ hd => Or.inl ⟨hd, rfl⟩)
theorem Chg.of_below {H C : Nat} (h : Below C W W') (hC : H ≤ C) : Chg A D H W W' := ⟨h.os, h.output, h.size, fun b hb _ => h.block b (by omega)⟩
theorem Chg.alloc {H : Nat} (hH : H ≤ W.heap.size) (x : Obj) : Chg A D H W (W.alloc x) := Chg.of_below ((Below.refl _ _).alloc (Nat.le_refl _) _) hH
theorem Chg.setCell {H : Nat} {r : Role} (hr : D r) (k : Nat) (v : Value) : Chg A D H W (W.setCell ⟨A r, k, none⟩ v) :=
  ⟨rfl, rfl, by simp, fun b _ h => by simp [World.setCell, Array.getElem?_modify, h r hr]⟩
theorem Chg.setO {H : Nat} {r : Role} (hr : D r) (x : Obj) : Chg A D H W (setO W (A r) x) :=
  ⟨rfl, rfl, by simp, fun b _ h => setO_other W (A r) b x (fun e => h r hr e.symm)⟩

theorem RepF.ne (h : RepF A m o D B W) {r r' : Role} (hr : D r) (hr' : D r') (hne : r ≠ r') : A r ≠ A r' := fun e => hne (h.inj r r' hr hr' e)

theorem RepF.below (h : RepF A m o D B W) (hb : Below W.heap.size W W') : RepF A m o D B W' := by
  have hs := hb.size
  refine ⟨?_, ?_, ?_, h.inj⟩
  · intro r k v hm
    obtain ⟨h1, h2, h3⟩ := h.cell r k v hm
    have h4 := (h.dom r h1).2
    exact ⟨h1, (hb.cell (p := ⟨A r, k, none⟩) h4).trans h2, (hb.frozen (p := ⟨A r, k, none⟩) h4).trans h3⟩
  · intro r x hx
    obtain ⟨h1, h2⟩ := h.obj r x hx
    exact ⟨h1, (hb.block _ (h.dom r h1).2).trans h2⟩
  · intro r hr
    have := h.dom r hr
    exact ⟨this.1, by omega⟩
theorem RepF.alike (h : RepF A m o D B W) (ha : W'.Alike W) : RepF A m o D B W' := by
  obtain ⟨e, _, _⟩ := ha
  refine ⟨?_, ?_, ?_, h.inj⟩
  · intro r k v hm
    obtain ⟨h1, h2, h3⟩ := h.cell r k v hm
    exact ⟨h1, by simpa [World.cell?, e] using h2, by simpa [World.frozen?, e] using h3⟩
  · intro r x hx
    rw [e]; exact h.obj r x hx
  · rw [e]; exact h.dom
theorem Chg.alike {H : Nat} (ha : W'.Alike W) : Chg A D H W W' := ⟨ha.2.1, ha.2.2, by rw [ha.1]; omega, fun b _ _ => by rw [ha.1]⟩
theorem RepF.alloc (h : RepF A m o D B W) (x : Obj) : RepF A m o D B (W.alloc x) := h.below ((Below.refl _ _).alloc (Nat.le_refl _) _)
theorem RepF.drew (h : RepF A m o D B W) : RepF A m o D B W.drew := h.below (Below.refl _ _).drew

theorem RepF.setCell (h : RepF A m o D B W) {r0 : Role} {k0 : Nat} {old : Value} (hm : m r0 k0 = some old) (ho : o r0 = none) (v : Value) : RepF A (updm m r0 k0 v) o D B (W.setCell ⟨A r0, k0, none⟩ v) := by
  obtain ⟨d0, c0, f0⟩ := h.cell r0 k0 old hm
  refine ⟨?_, ?_, ?_, h.inj⟩
  · intro r k u hu
    unfold updm at hu
    split at hu
    · rename_i e
      obtain ⟨rfl, rfl⟩ := e
      simp only [Option.some.injEq] at hu
      subst hu
      exact ⟨d0, World.cell?_setCell_same _ _ _ c0, by simpa using f0⟩
    · rename_i e
      obtain ⟨h1, h2, h3⟩ := h.cell r k u hu
      refine ⟨h1, ?_, by simpa using h3⟩
      rw [World.cell?_setCell_other _ _ _ _ (fun e2 => e ?_)]
      · exact h2
      · have e3 := congrArg Addr.block e2
        have e4 := congrArg Addr.off e2
        simp at e3 e4
        exact ⟨h.inj _ _ h1 d0 e3.symm, by omega⟩
  · intro r x hx
    obtain ⟨h1, h2⟩ := h.obj r x hx
    have hne : r ≠ r0 := fun e => by subst e; rw [ho] at hx; cases hx
    refine ⟨h1, ?_⟩
    have := h.ne h1 d0 hne
    simp [World.setCell, Array.getElem?_modify, Ne.symm this, h2]
  · intro r hr
    simpa using h.dom r hr

theorem RepF.setO (h : RepF A m o D B W) {r0 : Role} {x : Obj} (hx : o r0 = some x) (hc : ∀ c t f, x ≠ .cells c t f) (y : Obj) : RepF A m (updo o r0 y) D B (setO W (A r0) y) := by
  obtain ⟨d0, h0⟩ := h.obj r0 x hx
  refine ⟨?_, ?_, ?_, h.inj⟩
  · intro r k u hu
    obtain ⟨h1, h2, h3⟩ := h.cell r k u hu
    have hne : r ≠ r0 := by
      rintro rfl
      unfold World.cell? at h2
      simp only [h0] at h2
      split at h2
      · rename_i c t f e
        exact hc c t f (Option.some.inj e)
      · cases h2
    have := h.ne h1 d0 hne
    exact ⟨h1, (setO_cell W _ _ ⟨A r, k, none⟩ this).trans h2, (setO_frozen W _ _ ⟨A r, k, none⟩ this).trans h3⟩
  · intro r z hz
    unfold updo at hz
    split at hz
    · rename_i e
      subst e
      simp only [Option.some.injEq] at hz
      subst hz
      exact ⟨d0, setO_heap W _ _ (h.dom r d0).2⟩
    · rename_i e
      obtain ⟨h1, h2⟩ := h.obj r z hz
      exact ⟨h1, (setO_other W _ _ _ (h.ne h1 d0 e)).trans h2⟩
  · intro r hr
    simpa using h.dom r hr

theorem RepF.mono (h : RepF A m o D B W) {m' : Role → Nat → Option Value} {o' : Role → Option Obj} (hm : ∀ r k v, m' r k = some v → m r k = some v) (ho : ∀ r x, o' r = some x → o r = some x) : RepF A m' o' D B W :=
  ⟨fun r k v hv => h.cell r k v (hm r k v hv), fun r x hx => h.obj r x (ho r x hx), h.dom, h.inj⟩

def updA (A : Role → Nat) (r0 : Role) (b : Nat) : Role → Nat := fun r => if r = r0 then b else A r

/-- a new block takes a role that no block had -/
theorem RepF.new (h : RepF A m o D B W) {r0 : Role} (hr : ¬ D r0) (b : Nat) (hb : B ≤ b) (hlt : b < W.heap.size) (hfree : ∀ r, D r → A r ≠ b)
    (m0 : Nat → Option Value) (o0 : Option Obj) (hm0 : ∀ k v, m0 k = some v → W.cell? ⟨b, k, none⟩ = some v ∧ W.frozen? ⟨b, k, none⟩ = false) (ho0 : ∀ x, o0 = some x → W.heap[b]? = some x) :
    RepF (updA A r0 b) (fun r k => if r = r0 then m0 k else m r k) (fun r => if r = r0 then o0 else o r) (fun r => D r ∨ r = r0) B W := by
  have ea : ∀ r, D r → updA A r0 b r = A r := fun r hd => by
    have hne : r ≠ r0 := by rintro rfl; exact hr hd
    simp [updA, hne]
  have e0 : updA A r0 b r0 = b := by simp [updA]
  refine ⟨?_, ?_, ?_, ?_⟩
  · intro r k v hv
    by_cases hrr : r = r0
    · subst hrr
      simp only [if_true] at hv
      rw [e0]
      exact ⟨Or.inr rfl, hm0 k v hv⟩
    · simp only [hrr, if_false] at hv
      obtain ⟨h1, h2⟩ := h.cell r k v hv
      rw [ea r h1]
      exact ⟨Or.inl h1, h2⟩
  · intro r x hx
    by_cases hrr : r = r0
    · subst hrr
      simp only [if_true] at hx
      rw [e0]
      exact ⟨Or.inr rfl, ho0 x hx⟩
    · simp only [hrr, if_false] at hx
      obtain ⟨h1, h2⟩ := h.obj r x hx
      rw [ea r h1]
      exact ⟨Or.inl h1, h2⟩
  · rintro r (hd | rfl)
    · rw [ea r hd]; exact h.dom r hd
    · rw [e0]; exact ⟨hb, hlt⟩
  · rintro r r' (hd | rfl) (hd' | rfl) e
    · rw [ea r hd, ea r' hd'] at e; exact h.inj r r' hd hd' e
    · rw [ea r hd, e0] at e; exact absurd e (hfree r hd)
    · rw [ea r' hd', e0] at e; exact absurd e.symm (hfree r' hd')
    · rfl

/-- a live transaction as it was handed in -/
structure Spec where
  casc : Bool
  wait : Bool
  ww : Bool
  conf : Bool
  park : Bool
  rd : Nat
  wr : Nat
/-- what does not change while the transactions end -/
structure Env where
  n : Nat
  sp : Nat → Spec
  cc : Nat → Int
  step : Int
  kind : Int
  txn : Int
  item : ByteArray
  expr : ByteArray
  dec : Int
  cyc : Value
  cv : Value
  xcap : Nat
  scap : Nat
/-- what changes -/
structure Sys where
  en : Nat → Bool
  an : Nat → Bool
  ab : Int
  ck : Int
  ra : Int
  rdr : Nat → Int
  wtr : Nat → Int
  lv : Value
  cas : Int
  nv : Value
  kn : Nat → Option Value

/-- the bits of a mask below 4 -/
def bitsOf (mk : Nat) : List Nat := (List.range 4).filter fun j => mk.testBit j
/-- a set of items as a map's entries -/
def setEnts (mk : Nat) : Array MapEntry := ((bitsOf mk).zipIdx.map fun p => { key := .string (nm p.1), val := .bool true, born := p.2 }).toArray
/-- the set's value -/
def setVal (mk b : Nat) : Value := if bitsOf mk = [] then .map none else .map (some b)
/-- how many of the first i transactions wait -/
def rank (E : Env) (i : Nat) : Nat := ((List.range i).filter fun j => (E.sp j).wait).length

def ptr (b : Nat) : Value := .pointer (some ⟨b, 0, none⟩)
def errOf (A : Role → Nat) (i : Nat) : Value := .iface 136 (ptr (A (.Ae i)))

def stC (A : Role → Nat) (E : Env) (S : Sys) (k : Nat) : Option Value :=
  if k = 2 then some (.iface 34 (ptr (A .sch))) else if k = 6 then some (.iface 37 (ptr (A .vs))) else if k = 110 then some (.map (some (A .live))) else if k = 112 then some (.map (some (A .wait)))
  else if k = 120 then some (.int .i64 S.ab) else if k = 124 then some (.int .i64 S.ck) else if k = 125 then some (.int .i64 S.ra)
  else if 119 ≤ k ∧ k ≤ 126 then some (.int .i64 (E.cc (k - 119)))
  else if k = 127 then some (.slice (some ⟨A .slots, 0, none⟩) 64 E.scap) else if k = 129 then some (.map (some (A .long))) else if k = 131 then some (.slice (some ⟨A .xs, 0, none⟩) 4 E.xcap) else none
def slotC (k : Nat) : Option Value :=
  if k = 153 then some (.int .u64 120) else if k = 154 then some (.int .i32 1) else if k = 155 then some (.int .u8 1)
  else if k = 135 then some (.int .u64 121) else if k = 136 then some (.int .i32 2) else if k = 137 then some (.int .u8 1)
  else if k = 114 then some (.int .u64 122) else if k = 115 then some (.int .i32 3) else if k = 116 then some (.int .u8 1) else none
def uC (A : Role → Nat) (E : Env) (S : Sys) (i k : Nat) : Option Value :=
  if k = 0 then some (ptr (A .st)) else if k = 1 then some (.int .i64 ((i : Int) + 1)) else if k = 2 then some (cond (S.en i) (errOf A i) .nilIface)
  else if k = 3 then some (cond ((E.sp i).wait && !S.an i) (ptr (A (.Wt i))) (.pointer none))
  else if k = 4 then some (setVal (E.sp i).rd (A (.Rm i))) else if k = 5 then some (setVal (E.sp i).wr (A (.Wm i)))
  else if k = 6 then some (.int .i32 0) else if k = 7 then some (.int .i32 0)
  else if k = 10 then some (cond (E.sp i).park (.func (.func 14) #[] #[ptr (A (.Pn i)), ptr (A (.Pl i))]) .nilFunc) else none
def wC (A : Role → Nat) (E : Env) (S : Sys) (i k : Nat) : Option Value :=
  if k = 0 then some (.int .u8 (cond (E.sp i).ww 2 1)) else if k = 1 then some (.int .i64 ((i : Int) + 1)) else if k = 2 then some (.string ⟨#[120]⟩) else if k = 3 then some (.string ⟨#[]⟩)
  else if k = 5 then some (.int .i64 (((i : Int) + 1) * 10)) else if k = 6 then some (.bool (E.sp i).conf) else if k = 8 then some (.chan (some (A (.Ch i))))
  else if k = 9 then some (.int .i64 (cond (S.an i) 0 7)) else if k = 10 then some (cond (S.an i) (errOf A i) .nilIface) else none
def aC (E : Env) (S : Sys) (i k : Nat) : Option Value :=
  if k = 0 then some (.int .i64 ((i : Int) + 1)) else if k = 1 then some (.int .i64 E.step)
  else if k = 2 then some (.int .u8 (if i = 0 then E.kind else 4)) else if k = 3 then some (.int .i64 (if i = 0 then E.txn else (i : Int) + 1))
  else if k = 4 then some (.string (if i = 0 then E.item else ⟨#[]⟩)) else if k = 5 then some (.string (if i = 0 then E.expr else ⟨#[]⟩))
  else if k = 6 then some (.int .u8 (if i = 0 then E.dec else 8)) else if k = 7 then some (if i = 0 then S.nv else .slice none 0 0)
  else if k = 8 then some (if i = 0 then E.cyc else .slice none 0 0) else none

def mem (A : Role → Nat) (E : Env) (S : Sys) : Role → Nat → Option Value
  | .inl 0, k => stC A E S k
  | .inl 1, k => if k = 0 then some E.cv else if k = 1 then some (.int .i64 S.cas) else if k = 2 then some (.int .i64 0) else none
  | .inl 2, k => if k = 0 then some (.int .i64 0) else none
  | .inl 5, k => slotC k
  | .inl 7, k => if k < 12 then some (if k % 3 = 0 then .string (nm (k / 3)) else if k % 3 = 1 then .int .i64 (S.rdr (k / 3)) else .int .i64 (S.wtr (k / 3))) else none
  | .inl 8, k => if k = 0 then some S.lv else none
  | .inl 9, k => S.kn k
  | .inr (0, i), k => if i < E.n then uC A E S i k else none
  | .inr (1, i), k => if i < E.n ∧ (E.sp i).wait = true then wC A E S i k else none
  | .inr (5, i), k => if i < E.n ∧ (E.sp i).park = true ∧ k = 0 then some (.int .i64 ((i : Int) + 1)) else none
  | .inr (6, i), k => if i < E.n ∧ (E.sp i).park = true ∧ k = 0 then some (ptr (A .log)) else none
  | .inr (7, i), k => if i < E.n then cond (S.en i) (aC E S i k) none else none
  | _, _ => none

/-- the transactions that are live -/
def liveL (E : Env) (S : Sys) : List Nat := (List.range E.n).filter fun i => !S.en i
/-- the transactions whose request waits -/
def waitL (E : Env) (S : Sys) : List Nat := (List.range E.n).filter fun i => (E.sp i).wait && !S.an i
def liveE (A : Role → Nat) (i : Nat) : MapEntry := ent ((i : Int) + 1) (ptr (A (.U i))) i
def waitE (A : Role → Nat) (E : Env) (i : Nat) : MapEntry := ent (((i : Int) + 1) * 10) (ptr (A (.U i))) (rank E i)

def obj (A : Role → Nat) (E : Env) (S : Sys) : Role → Option Obj
  | .inl 3 => some (.map ((liveL E S).map (liveE A)).toArray E.n)
  | .inl 4 => some (.map ((waitL E S).map (waitE A E)).toArray (rank E E.n))
  | .inl 6 => some (.map #[{ key := .string (nm 3), val := .int .i32 3, born := 0 }] 1)
  | .inr (2, i) => if i < E.n ∧ bitsOf (E.sp i).rd ≠ [] then some (.map (setEnts (E.sp i).rd) (bitsOf (E.sp i).rd).length) else none
  | .inr (3, i) => if i < E.n ∧ bitsOf (E.sp i).wr ≠ [] then some (.map (setEnts (E.sp i).wr) (bitsOf (E.sp i).wr).length) else none
  | .inr (4, i) => if i < E.n ∧ (E.sp i).wait = true then some (.chan 0 #[] (S.an i) 0 0 false) else none
  | _ => none

def dom (E : Env) (S : Sys) : Role → Prop
  | .inr (0, i) => i < E.n
  | .inr (1, i) => i < E.n ∧ (E.sp i).wait = true
  | .inr (4, i) => i < E.n ∧ (E.sp i).wait = true
  | .inr (2, i) => i < E.n ∧ bitsOf (E.sp i).rd ≠ []
  | .inr (3, i) => i < E.n ∧ bitsOf (E.sp i).wr ≠ []
  | .inr (5, i) => i < E.n ∧ (E.sp i).park = true
  | .inr (6, i) => i < E.n ∧ (E.sp i).park = true
  | .inr (7, i) => i < E.n ∧ S.en i = true
  | .inl 9 => ∃ k, S.kn k ≠ none
  | _ => True

/-- the whole state -/
structure Rep (A : Role → Nat) (E : Env) (S : Sys) (lx : List Int) (B : Nat) (W : World) : Prop where
  rep : RepF A (mem A E S) (obj A E S) (dom E S) B W
  base : B ≤ W.heap.size
  own : W.ownsRow B 3 1 S.lv lx.length (lx.map (Value.int .i64))
  apart : ∀ r, dom E S r → S.lv.ownBlock ≠ some (A r)
end Go.Proofs.Ybulkedxc
