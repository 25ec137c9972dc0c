/-
  LawS6515BWhole: the law's variables; the state ahead of the transactions.
-/
import Derived.Test.YbulkedxcS8
namespace Go.Proofs.Ybulkedxc
open Go.RowKit
attribute [local simp] setO_size setT_same
set_option linter.unusedSimpArgs false
set_option linter.unusedVariables false
set_option linter.unnecessarySimpa false

def envOf (D : Inp) (n : Nat) (cv : Value) (xcap : Nat) : Env := { n := n, sp := D.sp, cc := D.bc, step := D.step, kind := D.kind, txn := D.txn, item := D.item, expr := D.expr, dec := D.dec, cyc := .slice D.ca D.cn D.cc, cv := cv, xcap := xcap, scap := 64 }
def sys0 (D : Inp) : Sys := { en := fun _ => false, an := fun _ => false, ab := D.bc 1, ck := D.bc 5, ra := D.bc 6, rdr := D.rd, wtr := D.wr, lv := .slice none 0 0, cas := 0, nv := .slice none 0 0, kn := fun _ => none }
/-- the blocks of the law's variables -/
structure Var where
  e7 : Nat
  b11 : Nat
  b12 : Nat
  b13 : Nat
  b15 : Nat
  b19 : Nat
  sp : Nat
  tx : Nat
  wt : Nat
  en : Nat
def Var.all (V : Var) : List Nat := [V.e7, V.b11, V.b12, V.b13, V.b15, V.b19, V.sp, V.tx, V.wt, V.en]
/-- those that stay -/
structure Vars (D : Inp) (V : Var) (w : World) : Prop where
  e7 : w.heap[V.e7]? = some (.cells D.evA 24 (0, 0))
  b11 : w.heap[V.b11]? = some (.cells D.bcA 30 (0, 0))
  b12 : w.heap[V.b12]? = some (.cells (four D.rd) 31 (0, 0))
  b13 : w.heap[V.b13]? = some (.cells (four D.wr) 31 (0, 0))
  b15 : w.heap[V.b15]? = some (.cells nmA 32 (0, 0))
  b19 : w.heap[V.b19]? = some (.cells (xsA 4) 89 (0, 0))
  sp : ∃ cs, w.heap[V.sp]? = some (.cells cs 27 (0, 0)) ∧ ∀ i, i ≤ D.on → ∀ j v, (spA (D.sp i))[j]? = some v → cs[i * 7 + j]? = some v
/-- who ends -/
def ends (D : Inp) (i : Nat) : Bool := i == 0 || (D.sp i).casc
/-- the arrays of the first k transactions -/
structure Arr (D : Inp) (V : Var) (A : Role → Nat) (k : Nat) (w : World) : Prop where
  tx : ∃ cs, w.heap[V.tx]? = some (.cells cs 96 (0, 0)) ∧ cs.size = D.on + 1 ∧ ∀ i, i < k → cs[i]? = some (ptr (A (.U i)))
  wt : ∃ cs, w.heap[V.wt]? = some (.cells cs 99 (0, 0)) ∧ cs.size = D.on + 1 ∧ (∀ i, i < k → cs[i]? = some (cond (D.sp i).wait (ptr (A (.Wt i))) (.pointer none))) ∧ ∀ i, k ≤ i → i < D.on + 1 → cs[i]? = some (.pointer none)
  en : ∃ cs, w.heap[V.en]? = some (.cells cs 4 (0, 0)) ∧ cs.size = D.on + 1 ∧ (∀ i, i < k → cs[i]? = some (.bool (ends D i))) ∧ ∀ i, k ≤ i → i < D.on + 1 → cs[i]? = some (.bool false)
/-- the frame's slots behind statement 16 -/
structure Sl2 (D : Inp) (V : Var) (A : Role → Nat) (cap : Nat) (f : Nat → Value) : Prop where
  s1 : f 1 = .slice D.ca D.cn D.cc
  s7 : f 7 = ptr V.e7
  s11 : f 11 = ptr V.b11
  s12 : f 12 = ptr V.b12
  s13 : f 13 = ptr V.b13
  s15 : f 15 = ptr V.b15
  s16 : f 16 = ptr (A .sch)
  s17 : f 17 = ptr (A .vs)
  s18 : f 18 = ptr (A .st)
  s19 : f 19 = ptr V.b19
  s22 : f 22 = ptr (A .log)
  s23 : f 23 = .slice (some ⟨V.sp, 0, none⟩) (D.on + 1) cap
  s24 : f 24 = .slice (some ⟨V.tx, 0, none⟩) (D.on + 1) (D.on + 1)
  s25 : f 25 = .slice (some ⟨V.wt, 0, none⟩) (D.on + 1) (D.on + 1)
  s26 : f 26 = .slice (some ⟨V.en, 0, none⟩) (D.on + 1) (D.on + 1)
/-- the blocks of the variables are apart from those of the roles -/
structure Apart (V : Var) (A : Role → Nat) (E : Env) (S : Sys) (B : Nat) : Prop where
  nodup : V.all.Nodup
  base : ∀ b ∈ V.all, B ≤ b
  role : ∀ r, dom E S r → A r ∉ V.all

theorem Vars.keep {D : Inp} {V : Var} {w w' : World} (h : Vars D V w) (hb : ∀ b ∈ V.all, b ≠ V.tx → b ≠ V.wt → b ≠ V.en → w'.heap[b]? = w.heap[b]?) (hn : V.all.Nodup) : Vars D V w' := by
  simp only [Var.all, List.nodup_cons, List.mem_cons, List.not_mem_nil, not_or, or_false, not_false_eq_true, and_true] at hn
  obtain ⟨⟨_, _, _, _, _, _, a1, a2, a3⟩, ⟨_, _, _, _, _, b1, b2, b3⟩, ⟨_, _, _, _, c1, c2, c3⟩, ⟨_, _, _, d1, d2, d3⟩, ⟨_, _, e1, e2, e3⟩, ⟨_, f1, f2, f3⟩, ⟨g1, g2, g3⟩, _⟩ := hn
  obtain ⟨cs, h1, h2⟩ := h.sp
  exact ⟨(hb _ (by simp [Var.all]) a1 a2 a3).trans h.e7, (hb _ (by simp [Var.all]) b1 b2 b3).trans h.b11, (hb _ (by simp [Var.all]) c1 c2 c3).trans h.b12, (hb _ (by simp [Var.all]) d1 d2 d3).trans h.b13, (hb _ (by simp [Var.all]) e1 e2 e3).trans h.b15, (hb _ (by simp [Var.all]) f1 f2 f3).trans h.b19, cs, (hb _ (by simp [Var.all]) g1 g2 g3).trans h1, h2⟩
theorem Arr.keep {D : Inp} {V : Var} {A : Role → Nat} {k : Nat} {w w' : World} (h : Arr D V A k w) (hb : ∀ b ∈ V.all, w'.heap[b]? = w.heap[b]?) : Arr D V A k w' := by
  obtain ⟨⟨c1, h1, r1⟩, ⟨c2, h2, r2⟩, ⟨c3, h3, r3⟩⟩ := h
  exact ⟨⟨c1, (hb _ (by simp [Var.all])).trans h1, r1⟩, ⟨c2, (hb _ (by simp [Var.all])).trans h2, r2⟩, ⟨c3, (hb _ (by simp [Var.all])).trans h3, r3⟩⟩
theorem Arr.agree {D : Inp} {V : Var} {A A' : Role → Nat} {k : Nat} {w : World} (h : Arr D V A k w) (hU : ∀ i, i < k → A' (.U i) = A (.U i)) (hW : ∀ i, i < k → (D.sp i).wait = true → A' (.Wt i) = A (.Wt i)) : Arr D V A' k w := by
  obtain ⟨⟨c1, h1, z1, r1⟩, ⟨c2, h2, z2, r2, q2⟩, h3⟩ := h
  refine ⟨⟨c1, h1, z1, fun i hi => by rw [hU i hi]; exact r1 i hi⟩, ⟨c2, h2, z2, fun i hi => ?_, q2⟩, h3⟩
  rw [r2 i hi]
  cases hw : (D.sp i).wait
  · rfl
  · simp only [cond_true]
    rw [hW i hi hw]

/-- the roles ahead of the transactions -/
def baseA (st sch vs live wait slots long xs log : Nat) : Role → Nat
  | .inl 0 => st
  | .inl 1 => sch
  | .inl 2 => vs
  | .inl 3 => live
  | .inl 4 => wait
  | .inl 5 => slots
  | .inl 6 => long
  | .inl 7 => xs
  | .inl 8 => log
  | _ => 0

theorem cell_of {w : World} {b : Nat} {cs : Array Value} {t : TypeId} (h : w.heap[b]? = some (.cells cs t (0, 0))) (k : Nat) : w.cell? ⟨b, k, none⟩ = cs[k]? := by simp [World.cell?, h]
theorem frozen_of {w : World} {b : Nat} {cs : Array Value} {t : TypeId} (h : w.heap[b]? = some (.cells cs t (0, 0))) (k : Nat) : w.frozen? ⟨b, k, none⟩ = false := by simp [World.frozen?, h]
theorem ite_yes {p : Prop} [Decidable p] {v : Value} {a : Option Value} (h : (if p then a else none) = some v) : p := by
  by_cases hp : p
  · exact hp
  · rw [if_neg hp] at h
    cases h
theorem ite_some {p : Prop} [Decidable p] {a v : Value} {r : Option Value} (h : (if p then some a else r) = some v) : (p ∧ a = v) ∨ (¬ p ∧ r = some v) := by
  by_cases hp : p
  · rw [if_pos hp] at h
    exact Or.inl ⟨hp, Option.some.inj h⟩
  · rw [if_neg hp] at h
    exact Or.inr ⟨hp, h⟩

set_option maxHeartbeats 1600000 in
theorem rep0 (D : Inp) (L : Loc) (N s l g cap lg B : Nat) (zs cs : Array Value) (w : World) (hpre : Pre D L w) (ho : L.Ord B N) (ht : Tab D L N s l g cap 4 zs cs w) (hN : N ≤ w.heap.size) (hlg : w.heap[lg]? = some (.cells #[.slice none 0 0] 25 (0, 0))) (hlN : N ≤ lg) (h1 : lg ≠ s) (h2 : lg ≠ l) (h3 : lg ≠ g) :
    Rep (baseA L.st L.sch L.vs L.live L.wait s l g lg) (envOf D 0 (.slice none 0 0) cap) (sys0 D) [] B w := by
  obtain ⟨o0, o1, o2, o3, o4, o5, o6, o7, o8, o9, o10, o11, o12⟩ := ho
  have sl := ht.sl
  have sg := ht.sg
  have lgn := ht.lg
  have lt : ∀ b o, w.heap[b]? = some o → b < w.heap.size := fun b o e => (Array.getElem?_eq_some_iff.1 e).1
  have ls := lt _ _ ht.sH
  have ll := lt _ _ ht.lH
  have lgg := lt _ _ ht.gH
  have llg := lt _ _ hlg
  have q1 := ht.sN
  have q2 := ht.lN
  have q3 := ht.gN
  refine ⟨⟨?_, ?_, ?_, ?_⟩, by omega, ⟨rfl, Or.inl ⟨rfl, rfl⟩⟩, ?_⟩
  · intro r k v hm
    cases r using Role.split with
    | st =>
      have hm : stC (baseA L.st L.sch L.vs L.live L.wait s l g lg) (envOf D 0 (.slice none 0 0) cap) (sys0 D) k = some v := hm
      refine ⟨trivial, ?_, ht.fr k⟩
      show w.cell? ⟨L.st, k, none⟩ = some v
      rcases ite_some hm with ⟨rfl, rfl⟩ | ⟨_, hm⟩
      · exact hpre.s2
      rcases ite_some hm with ⟨rfl, rfl⟩ | ⟨_, hm⟩
      · exact hpre.s6
      rcases ite_some hm with ⟨rfl, rfl⟩ | ⟨_, hm⟩
      · exact hpre.s110
      rcases ite_some hm with ⟨rfl, rfl⟩ | ⟨_, hm⟩
      · exact hpre.s112
      rcases ite_some hm with ⟨rfl, rfl⟩ | ⟨_, hm⟩
      · exact hpre.sc 1 (by omega)
      rcases ite_some hm with ⟨rfl, rfl⟩ | ⟨_, hm⟩
      · exact hpre.sc 5 (by omega)
      rcases ite_some hm with ⟨rfl, rfl⟩ | ⟨_, hm⟩
      · exact hpre.sc 6 (by omega)
      rcases ite_some hm with ⟨e, rfl⟩ | ⟨_, hm⟩
      · have := hpre.sc (k - 119) (by omega)
        rw [show 119 + (k - 119) = k by omega] at this
        exact this
      rcases ite_some hm with ⟨rfl, rfl⟩ | ⟨_, hm⟩
      · exact ht.t127
      rcases ite_some hm with ⟨rfl, rfl⟩ | ⟨_, hm⟩
      · exact ht.t129
      rcases ite_some hm with ⟨rfl, rfl⟩ | ⟨_, hm⟩
      · exact ht.t131
      · cases hm
    | sch =>
      refine ⟨trivial, ?_, ?_⟩
      · show w.cell? ⟨L.sch, k, none⟩ = some v
        have hc : ∀ k, w.cell? ⟨L.sch, k, none⟩ = (#[.slice none 0 0, .int .i64 0, .int .i64 0] : Array Value)[k]? := cell_of hpre.sch
        rcases ite_some hm with ⟨rfl, rfl⟩ | ⟨_, hm⟩
        · exact hc 0
        rcases ite_some hm with ⟨rfl, rfl⟩ | ⟨_, hm⟩
        · exact hc 1
        rcases ite_some hm with ⟨rfl, rfl⟩ | ⟨_, hm⟩
        · exact hc 2
        · cases hm
      · show w.frozen? ⟨L.sch, k, none⟩ = false
        simp [World.frozen?, hpre.sch]
    | vs =>
      refine ⟨trivial, ?_, ?_⟩
      · show w.cell? ⟨L.vs, k, none⟩ = some v
        have hc : ∀ k, w.cell? ⟨L.vs, k, none⟩ = (#[.int .i64 0] : Array Value)[k]? := cell_of hpre.vs
        rcases ite_some hm with ⟨rfl, rfl⟩ | ⟨_, hm⟩
        · exact hc 0
        · cases hm
      · show w.frozen? ⟨L.vs, k, none⟩ = false
        simp [World.frozen?, hpre.vs]
    | live => cases hm
    | wait => cases hm
    | slots =>
      have hm : slotC k = some v := hm
      refine ⟨trivial, ?_, ?_⟩
      · show w.cell? ⟨s, k, none⟩ = some v
        have hc : ∀ k, w.cell? ⟨s, k, none⟩ = zs[k]? := cell_of ht.sH
        rw [hc]
        have z0 := ht.zin 0 (by omega)
        have z1 := ht.zin 1 (by omega)
        have z2 := ht.zin 2 (by omega)
        rcases ite_some hm with ⟨rfl, rfl⟩ | ⟨_, hm⟩
        · exact z0.1
        rcases ite_some hm with ⟨rfl, rfl⟩ | ⟨_, hm⟩
        · exact z0.2.1
        rcases ite_some hm with ⟨rfl, rfl⟩ | ⟨_, hm⟩
        · exact z0.2.2
        rcases ite_some hm with ⟨rfl, rfl⟩ | ⟨_, hm⟩
        · exact z1.1
        rcases ite_some hm with ⟨rfl, rfl⟩ | ⟨_, hm⟩
        · exact z1.2.1
        rcases ite_some hm with ⟨rfl, rfl⟩ | ⟨_, hm⟩
        · exact z1.2.2
        rcases ite_some hm with ⟨rfl, rfl⟩ | ⟨_, hm⟩
        · exact z2.1
        rcases ite_some hm with ⟨rfl, rfl⟩ | ⟨_, hm⟩
        · exact z2.2.1
        rcases ite_some hm with ⟨rfl, rfl⟩ | ⟨_, hm⟩
        · exact z2.2.2
        · cases hm
      · show w.frozen? ⟨s, k, none⟩ = false
        simp [World.frozen?, ht.sH]
    | long => cases hm
    | xs =>
      refine ⟨trivial, ?_, ?_⟩
      · show w.cell? ⟨g, k, none⟩ = some v
        have hc : ∀ k, w.cell? ⟨g, k, none⟩ = cs[k]? := cell_of ht.gH
        rw [hc]
        rcases ite_some hm with ⟨hk, rfl⟩ | ⟨_, hm⟩
        · obtain ⟨c0, c1, c2⟩ := ht.cin (k / 3) (by omega)
          have hd : decide (k / 3 < 4) = true := decide_eq_true (by omega)
          rw [hd] at c1 c2
          by_cases e0 : k % 3 = 0
          · rw [show k / 3 * 3 = k by omega] at c0
            rw [if_pos e0]
            exact c0
          · by_cases e1 : k % 3 = 1
            · rw [show k / 3 * 3 + 1 = k by omega] at c1
              rw [if_neg e0, if_pos e1]
              exact c1
            · rw [show k / 3 * 3 + 2 = k by omega] at c2
              rw [if_neg e0, if_neg e1]
              exact c2
        · cases hm
      · show w.frozen? ⟨g, k, none⟩ = false
        simp [World.frozen?, ht.gH]
    | log =>
      refine ⟨trivial, ?_, ?_⟩
      · show w.cell? ⟨lg, k, none⟩ = some v
        have hc : ∀ k, w.cell? ⟨lg, k, none⟩ = (#[.slice none 0 0] : Array Value)[k]? := cell_of hlg
        rcases ite_some hm with ⟨rfl, rfl⟩ | ⟨_, hm⟩
        · exact hc 0
        · cases hm
      · show w.frozen? ⟨lg, k, none⟩ = false
        simp [World.frozen?, hlg]
    | kn => cases hm
    | U i => cases hm
    | Wt i => cases hm
    | Rm i => cases hm
    | Wm i => cases hm
    | Ch i => cases hm
    | Pn i => cases hm
    | Pl i => cases hm
    | Ae i => cases hm
  · intro r x hx
    cases r using Role.split with
    | live => cases hx; exact ⟨trivial, hpre.live⟩
    | wait => cases hx; exact ⟨trivial, hpre.wait⟩
    | long => cases hx; exact ⟨trivial, ht.lH⟩
    | st => cases hx
    | sch => cases hx
    | vs => cases hx
    | slots => cases hx
    | xs => cases hx
    | log => cases hx
    | kn => cases hx
    | U i => cases hx
    | Wt i => cases hx
    | Rm i => simp [obj, envOf] at hx
    | Wm i => simp [obj, envOf] at hx
    | Ch i => simp [obj, envOf] at hx
    | Pn i => cases hx
    | Pl i => cases hx
    | Ae i => cases hx
  · intro r hr
    cases r using Role.split with
    | st => show B ≤ L.st ∧ L.st < w.heap.size; omega
    | sch => show B ≤ L.sch ∧ L.sch < w.heap.size; omega
    | vs => show B ≤ L.vs ∧ L.vs < w.heap.size; omega
    | live => show B ≤ L.live ∧ L.live < w.heap.size; omega
    | wait => show B ≤ L.wait ∧ L.wait < w.heap.size; omega
    | slots => show B ≤ s ∧ s < w.heap.size; omega
    | long => show B ≤ l ∧ l < w.heap.size; omega
    | xs => show B ≤ g ∧ g < w.heap.size; omega
    | log => show B ≤ lg ∧ lg < w.heap.size; omega
    | kn => obtain ⟨k, hk⟩ := hr; exact absurd rfl hk
    | U i => exact absurd hr (Nat.not_lt_zero _)
    | Wt i => exact absurd hr.1 (Nat.not_lt_zero _)
    | Rm i => exact absurd hr.1 (Nat.not_lt_zero _)
    | Wm i => exact absurd hr.1 (Nat.not_lt_zero _)
    | Ch i => exact absurd hr.1 (Nat.not_lt_zero _)
    | Pn i => exact absurd hr.1 (Nat.not_lt_zero _)
    | Pl i => exact absurd hr.1 (Nat.not_lt_zero _)
    | Ae i => exact absurd hr.1 (Nat.not_lt_zero _)
  · have key : ∀ r, dom (envOf D 0 (.slice none 0 0) cap) (sys0 D) r → ∃ i, r = Sum.inl i ∧ i.val < 9 := by
      intro r hr
      cases r using Role.split with
      | st => exact ⟨0, rfl, by decide⟩
      | sch => exact ⟨1, rfl, by decide⟩
      | vs => exact ⟨2, rfl, by decide⟩
      | live => exact ⟨3, rfl, by decide⟩
      | wait => exact ⟨4, rfl, by decide⟩
      | slots => exact ⟨5, rfl, by decide⟩
      | long => exact ⟨6, rfl, by decide⟩
      | xs => exact ⟨7, rfl, by decide⟩
      | log => exact ⟨8, rfl, by decide⟩
      | kn => obtain ⟨k, hk⟩ := hr; exact absurd rfl hk
      | U i => exact absurd hr (Nat.not_lt_zero _)
      | Wt i => exact absurd hr.1 (Nat.not_lt_zero _)
      | Rm i => exact absurd hr.1 (Nat.not_lt_zero _)
      | Wm i => exact absurd hr.1 (Nat.not_lt_zero _)
      | Ch i => exact absurd hr.1 (Nat.not_lt_zero _)
      | Pn i => exact absurd hr.1 (Nat.not_lt_zero _)
      | Pl i => exact absurd hr.1 (Nat.not_lt_zero _)
      | Ae i => exact absurd hr.1 (Nat.not_lt_zero _)
    intro r r' hr hr' e
    obtain ⟨i, rfl, hi⟩ := key r hr
    obtain ⟨j, rfl, hj⟩ := key r' hr'
    have nd : [L.st, L.sch, L.vs, L.live, L.wait, s, l, g, lg].Nodup := by
      simp only [List.nodup_cons, List.mem_cons, List.not_mem_nil, not_or, or_false, not_false_eq_true, and_true, List.nodup_nil]
      omega
    have val : ∀ i : Fin 10, (h : i.val < 9) → [L.st, L.sch, L.vs, L.live, L.wait, s, l, g, lg][i.val]'(by simpa using h) = baseA L.st L.sch L.vs L.live L.wait s l g lg (Sum.inl i) := by
      intro i h
      match i, h with
      | 0, _ => rfl
      | 1, _ => rfl
      | 2, _ => rfl
      | 3, _ => rfl
      | 4, _ => rfl
      | 5, _ => rfl
      | 6, _ => rfl
      | 7, _ => rfl
      | 8, _ => rfl
    rw [← val i hi, ← val j hj] at e
    have := (List.getElem_inj nd).1 e
    congr 1
    exact Fin.ext this
  · intro r _
    simp [sys0, Value.ownBlock]
end Go.Proofs.Ybulkedxc
