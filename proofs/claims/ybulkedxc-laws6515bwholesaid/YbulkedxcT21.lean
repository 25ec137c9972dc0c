/-
  LawS6515BWhole: statements 21 to 25: the clones, the event, the abort.
-/
import Derived.Test.YbulkedxcT18
namespace Go.Proofs.Ybulkedxc
open Go.RowKit
attribute [local simp] setO_size setT_same
set_option linter.unusedSimpArgs false
set_option linter.unusedVariables false
set_option linter.unnecessarySimpa false

def ntD (D : Inp) (ib : Nat → Nat) : NoteD := ⟨D.np, D.nit, D.nvl, ib⟩
/-- the state behind the abort; W: the world there -/
structure Aft (D : Inp) (V : Var) (A : Role → Nat) (S : Sys) (lx : List Int) (cv : Value) (xcap : Nat) (ib : Nat → Nat) (nv nv2 cy2 : Value) (ob : Nat) (w0 W : World) : Prop where
  rep : Rep A (envOf D (D.on + 1) cv xcap) S lx w0.heap.size W
  did : ∃ a c, Did (envOf D (D.on + 1) cv xcap) { sys0 D with nv := .slice a D.nn c, kn := knOf (ntD D ib) D.nn } S (0 :: clOf D (D.on + 1)) lx ∧ (D.nn = 0 → ∃ c0, nv = .slice a 0 c0) ∧ (0 < D.nn → a = some ⟨A .kn, 0, none⟩)
  cas : S.cas = 1
  ab : S.ab = abN (D.bc 1) (clOf D (D.on + 1)).length
  vars : Vars D V W
  arr : Arr D V A (D.on + 1) W
  nv0 : ∃ a c, nv = .slice a D.nn c ∧ (a = none ↔ D.na = none)
  nvS : 0 < D.nn → ∃ g c, nv = .slice (some ⟨g, 0, none⟩) D.nn c ∧ NotesAt W (ntD D ib) g D.nn
  nv2S : 0 < D.nn → ∃ g c, nv2 = .slice (some ⟨g, 0, none⟩) D.nn c ∧ ∀ j, j < D.nn → W.cell? ⟨g, j, none⟩ = some (noteV (ntD D ib) j)
  cyc : ∃ b d, cy2 = .slice b D.cn d ∧ ∀ k x, D.cx[k]? = some x → ∃ p, b = some p ∧ W.cell? (p.add k) = some (.int .i64 x)
  op : W.heap[ob]? = some (.cells #[.int .u8 D.kind, .int .i64 D.txn, .string D.item, .string D.expr] 113 (0, 0))
  old : Old w0.heap.size w0 W
/-- the frame's slots behind the abort -/
structure Sl3 (D : Inp) (V : Var) (A : Role → Nat) (cap : Nat) (nv nv2 cy2 : Value) (ob : Nat) (f : Nat → Value) : Prop where
  sl : Sl2 D V A cap f
  s27 : f 27 = .int .i64 ((clOf D (D.on + 1)).length : Nat)
  s34 : f 34 = nv
  s38 : f 38 = nv2
  s39 : f 39 = cy2
  s40 : f 40 = ptr ob

theorem Nt.val {D : Inp} {Hs : Nat} {ib : Nat → Nat} {nv : Value} {w : World} (h : Nt D Hs ib nv D.nn w) (hnil : D.na = none → D.nn = 0) : ∃ a c, nv = .slice a D.nn c ∧ (a = none ↔ D.na = none) := by
  obtain ⟨h1, h2⟩ := h.own
  rcases h2 with ⟨h3, h4⟩ | ⟨g, cap, cur, h3, _⟩
  · have hn : D.na = none := by
      cases hna : D.na with
      | none => rfl
      | some x => exact absurd h3 (h.some_ (by rw [hna]; simp))
    refine ⟨none, 0, ?_, by simp [hn]⟩
    rw [h3, hnil hn]
  · refine ⟨some ⟨g, 0, none⟩, cap, h3, ?_⟩
    constructor
    · intro e; cases e
    · intro e
      have := h.nil e
      rw [h3] at this
      cases this
theorem Nt.at_ {D : Inp} {Hs : Nat} {ib : Nat → Nat} {nv : Value} {w : World} (h : Nt D Hs ib nv D.nn w) (h0 : 0 < D.nn) : ∃ g c, nv = .slice (some ⟨g, 0, none⟩) D.nn c ∧ Hs ≤ g ∧ NotesAt w (ntD D ib) g D.nn := by
  have hne : nv ≠ .slice none 0 0 := by
    intro e
    obtain ⟨h1, h2⟩ := h.own
    rcases h2 with ⟨h3, h4⟩ | ⟨g, cap, cur, h3, _⟩
    · have : ((List.range D.nn).map (noteV ⟨D.np, D.nit, D.nvl, ib⟩)).length = 0 := by rw [h4]; rfl
      simp at this
      omega
    · rw [e] at h3; cases h3
  obtain ⟨g, cap, rfl, hg, hlt, hc, hf, hcell⟩ := own_some h.own hne
  refine ⟨g, cap, rfl, hg, hlt, fun k hk => ?_, fun k hk hp => ?_⟩
  · exact hcell k _ (by rw [List.getElem?_map, List.getElem?_range hk]; rfl)
  · obtain ⟨q1, q2, _⟩ := h.ptr k hk hp
    exact ⟨(Array.getElem?_eq_some_iff.1 q2).1, cell_of q2 0, cell_of q2 1⟩
theorem NotesAt.below {w w' : World} {N : NoteD} {nb n : Nat} (h : NotesAt w N nb n) (hb : Below w.heap.size w w') : NotesAt w' N nb n := by
  refine ⟨by have := h.lt; have := hb.size; omega, fun k hk => (hb.cell (p := ⟨nb, k, none⟩) h.lt).trans (h.cell k hk), fun k hk hp => ?_⟩
  obtain ⟨p1, p2, p3⟩ := h.ptr k hk hp
  exact ⟨by have := hb.size; omega, (hb.cell (p := ⟨N.ib k, 0, none⟩) p1).trans p2, (hb.cell (p := ⟨N.ib k, 1, none⟩) p1).trans p3⟩

/-- slices.Clone of the notes -/
theorem cloneN_any (D : Inp) (ib : Nat → Nat) (a : Option Addr) (c : Nat) (w : World) (hn : D.nn ≤ 65536) (h0 : a = none → D.nn = 0 ∧ c = 0) (ha : ∀ b, a = some b → b.block < w.heap.size) (hx : ∀ b j, a = some b → j < D.nn → w.cell? (b.add j) = some (noteV (ntD D ib) j)) :
    Calls Yba.prog 8 #[.slice a D.nn c] w fun e w' => ∃ a2 c2, e = .returned (.slice a2 D.nn c2) ∧ Below w.heap.size w w' ∧ (0 < D.nn → ∃ g, a2 = some ⟨g, 0, none⟩ ∧ w.heap.size ≤ g ∧ g < w'.heap.size ∧ ∀ j, j < D.nn → w'.cell? ⟨g, j, none⟩ = some (noteV (ntD D ib) j)) := by
  cases a with
  | none =>
    obtain ⟨e1, e2⟩ := h0 rfl
    rw [e1, e2]
    refine (cloneN_nil w).mono ?_
    rintro e w' ⟨rfl, rfl⟩
    exact ⟨none, 0, rfl, Below.refl _ _, fun h => absurd h (Nat.lt_irrefl _)⟩
  | some b =>
    refine (cloneN_some b D.nn c ((List.range D.nn).map (noteV (ntD D ib))) w (by simp) (fun j u hj => ?_) (fun u hu => ?_) (by omega) (ha b rfl)).mono ?_
    · have hjn : j < D.nn := by
        have := (List.getElem?_eq_some_iff.1 hj).1
        simpa using this
      rw [List.getElem?_map, List.getElem?_range hjn] at hj
      cases hj
      exact hx b j rfl hjn
    · simp at hu
      obtain ⟨k, _, rfl⟩ := hu
      unfold noteV plainV
      cases (ntD D ib).p k <;> rfl
    · rintro e w' ⟨g, cap, rfl, g1, g2, g3, g4, g5, g6⟩
      refine ⟨_, _, rfl, g6, fun _ => ⟨g, rfl, g1, g2, fun j hj => g5 j _ (by rw [List.getElem?_map, List.getElem?_range hj]; rfl)⟩⟩
theorem cloneI_any (D : Inp) (w : World) (hn : D.cn ≤ 65536) (hl : D.cx.length = D.cn) (h0 : D.ca = none → D.cn = 0 ∧ D.cc = 0) (ha : ∀ b, D.ca = some b → b.block < w.heap.size) (hx : ∀ k x, D.cx[k]? = some x → ∃ a, D.ca = some a ∧ w.cell? (a.add k) = some (.int .i64 x)) :
    Calls Yba.prog 9 #[.slice D.ca D.cn D.cc] w fun e w' => ∃ a2 c2, e = .returned (.slice a2 D.cn c2) ∧ Below w.heap.size w w' ∧ ∀ k x, D.cx[k]? = some x → ∃ g, a2 = some ⟨g, 0, none⟩ ∧ w.heap.size ≤ g ∧ g < w'.heap.size ∧ w'.cell? ⟨g, k, none⟩ = some (.int .i64 x) := by
  cases hca : D.ca with
  | none =>
    obtain ⟨e1, e2⟩ := h0 hca
    rw [e1, e2]
    refine (cloneI_nil w).mono ?_
    rintro e w' ⟨rfl, rfl⟩
    exact ⟨none, 0, rfl, Below.refl _ _, fun k x h => by have := (List.getElem?_eq_some_iff.1 h).1; omega⟩
  | some b =>
    refine (cloneI_some b D.cn D.cc (D.cx.map (Value.int .i64)) w (by simpa using hl) (fun j u hj => ?_) (fun u hu => ?_) (by omega) (ha b hca)).mono ?_
    · rw [List.getElem?_map] at hj
      cases hxj : D.cx[j]? with
      | none => rw [hxj] at hj; cases hj
      | some x =>
        rw [hxj] at hj
        cases hj
        obtain ⟨a, ha', hc⟩ := hx j x hxj
        rw [hca] at ha'
        cases ha'
        exact hc
    · simp at hu
      obtain ⟨x, _, rfl⟩ := hu
      rfl
    · rintro e w' ⟨g, cap, rfl, g1, g2, g3, g4, g5, g6⟩
      exact ⟨_, _, rfl, g6, fun k x h => ⟨g, rfl, g1, g2, g5 k _ (by rw [List.getElem?_map, h]; rfl)⟩⟩
end Go.Proofs.Ybulkedxc
