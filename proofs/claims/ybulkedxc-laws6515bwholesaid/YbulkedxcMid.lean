/-
  LawS6515BWhole: the states between the ends.
-/
import Derived.Test.YbulkedxcAbt
namespace Go.Proofs.Ybulkedxc
open Go.RowKit
attribute [local simp] setO_size setT_same
set_option linter.unnecessarySimpa false
variable {A : Role → Nat} {B : Nat} {W : World}

theorem own_lt {w : World} {n : Nat} {v : Value} {xs : List Value} (h : w.ownsRow B 3 1 v n xs) : ∀ b, v.ownBlock = some b → b < w.heap.size := by
  intro b hb
  rcases h.2 with ⟨h1, _⟩ | ⟨g, cap, cur, h1, _, h2, _⟩
  · rw [h1] at hb; simp [Value.ownBlock] at hb
  · rw [h1] at hb
    simp [Value.ownBlock] at hb
    subst hb
    exact (Array.getElem?_eq_some_iff.1 h2).1

theorem Rep.below {E : Env} {S : Sys} {lx : List Int} {W' : World} (h : Rep A E S lx B W) (hb : Below W.heap.size W W') : Rep A E S lx B W' :=
  ⟨h.rep.below hb, Nat.le_trans h.base hb.size, ownsRow_keep h.own (fun b e => hb.block b (own_lt h.own b e)), h.apart⟩

/-- between two ends: the transactions l have ended -/
structure Mid (E : Env) (S S1 S' : Sys) (A A1 A' : Role → Nat) (B : Nat) (wc wr : World) (l : List Nat) (lx : List Int) : Prop where
  rep : Rep A' E S' lx B wr
  agree : ∀ r, dom E S r → A' r = A r
  agree1 : ∀ r, dom E S1 r → A' r = A1 r
  ext : ∀ r, dom E S' r → (dom E S1 r ∧ A' r = A1 r) ∨ wc.heap.size ≤ A' r
  chg : Chg A1 (dom E S1) wc.heap.size wc wr
  log : ∀ b, S'.lv.ownBlock = some b → wc.heap.size ≤ b
  did : Did E S1 S' l lx

variable {E : Env} {S S1 S' : Sys} {A1 A' : Role → Nat} {wc wr : World} {l : List Nat} {lx : List Int}

theorem Mid.below (h : Mid E S S1 S' A A1 A' B wc wr l lx) {w2 : World} (hb : Below wr.heap.size wr w2) : Mid E S S1 S' A A1 A' B wc w2 l lx :=
  ⟨h.rep.below hb, h.agree, h.agree1, h.ext, h.chg.same (Chg.of_below hb h.chg.size), h.log, h.did⟩

theorem Mid.ab (h : Mid E S S1 S' A A1 A' B wc wr l lx) (x : Int) : Mid E S S1 { S' with ab := x } A A1 A' B wc (wr.setCell ⟨A' .st, 120, none⟩ (.int .i64 x)) l lx := by
  refine ⟨⟨set_ab E S' x h.rep.rep, by simpa using h.rep.base, ?_, h.rep.apart⟩, h.agree, h.agree1, h.ext, ?_, h.log, ⟨h.did.en, h.did.an, h.did.ck, h.did.ra, h.did.rdr, h.did.wtr, h.did.nv, h.did.kn, h.did.lx⟩⟩
  · exact ownsRow_keep h.rep.own (fun b hb => heap_setCell_ne _ (fun e => h.rep.apart .st trivial (by rw [← e]; exact hb)))
  · exact h.chg.trans (Chg.setCell (A := A') (D := dom E S') (r := .st) trivial 120 _) h.ext
theorem Mid.cas (h : Mid E S S1 S' A A1 A' B wc wr l lx) (x : Int) : Mid E S S1 { S' with cas := x } A A1 A' B wc (wr.setCell ⟨A' .sch, 1, none⟩ (.int .i64 x)) l lx := by
  refine ⟨⟨set_cas E S' x h.rep.rep, by simpa using h.rep.base, ?_, h.rep.apart⟩, h.agree, h.agree1, h.ext, ?_, h.log, ⟨h.did.en, h.did.an, h.did.ck, h.did.ra, h.did.rdr, h.did.wtr, h.did.nv, h.did.kn, h.did.lx⟩⟩
  · exact ownsRow_keep h.rep.own (fun b hb => heap_setCell_ne _ (fun e => h.rep.apart .sch trivial (by rw [← e]; exact hb)))
  · exact h.chg.trans (Chg.setCell (A := A') (D := dom E S') (r := .sch) trivial 1 _) h.ext

theorem dom_gone (E : Env) (S : Sys) (i : Nat) (lv : Value) : dom E (gone E S i lv) = dom E (ended1 S i) := by
  funext r
  unfold gone
  cases (E.sp i).wait <;> cases r using Role.split <;> rfl

/-- one more ends -/
theorem Mid.abort (h : Mid E S S1 S' A A1 A' B wc wr l lx) (hS : ∀ j, S.en j = false) (hS1 : ∀ j, S1.en j = false) (i : Nat) (hi : i < E.n) (hil : i ∉ l) (w2 : World) (cs : Array Value) (hlx : lx.length ≤ 1048576)
    (hb2 : Below wr.heap.size wr w2) (hlt2 : wr.heap.size < w2.heap.size) (hae : w2.heap[wr.heap.size]? = some (.cells cs 139 (0, 0))) (hcs : ∀ k v, aC E S' i k = some v → cs[k]? = some v) :
    Calls Yba.prog 20 #[ptr (A .st), ptr (A (.U i)), ptr wr.heap.size] w2 fun e W' => e = .returned (.tuple #[]) ∧ ∃ A'' lv', Mid E S S1 (gone E S' i lv') A A1 A'' B wc W' (l ++ [i]) (lx ++ logOf E i) := by
  have he : S'.en i = false := by rw [h.did.en i]; simp [hil]
  have ha : S'.an i = false := by rw [h.did.an i]; simp [hil]
  have hc := abort_call (A := A') (B := B) (W := wr) E S' lx i wc.heap.size w2 cs h.rep.rep h.rep.base h.rep.own h.rep.apart h.log hi he ha hlx h.chg.size hb2 hlt2 hae hcs
  rw [h.agree .st trivial, h.agree (.U i) hi] at hc
  refine hc.mono ?_
  rintro e W' ⟨rfl, A'', lv', h1, h2, h3, h4, h5⟩
  refine ⟨rfl, A'', lv', h3, ?_, ?_, ?_, ?_, h5, h.did.step i lv'⟩
  · intro r hr
    by_cases hra : r = .Ae i
    · subst hra
      simp [dom, hS] at hr
    · rw [h1 r hra]; exact h.agree r hr
  · intro r hr
    by_cases hra : r = .Ae i
    · subst hra
      simp [dom, hS1] at hr
    · rw [h1 r hra]; exact h.agree1 r hr
  · intro r hr
    rw [dom_gone, dom_ended1 E S' i hi] at hr
    by_cases hra : r = .Ae i
    · subst hra
      rw [h2]
      exact Or.inr h.chg.size
    · rw [h1 r hra]
      rcases hr with hr | hr
      · exact h.ext r hr
      · exact absurd hr hra
  · exact h.chg.trans h4 h.ext
end Go.Proofs.Ybulkedxc
