/-
  LawS6515BWhole: the small functions of an abort.
-/
import Derived.Test.YbulkedxcItem
import Derived.Laws.NewBlocks
import Derived.Laws.Rows
import Derived.Laws.Tables
import Derived.RegionTactic
import Derived.RegionCalls
import Derived.Deep.QuietTactic
import Derived.BigQuiet
namespace Go.Proofs.Ybulkedxc
open Go.RowKit

set_option maxRecDepth 100000 in
theorem undo_zero (p l : Value) (f g v : Value) (w : World) :
    Calls Yba.prog 16 #[p, .agg #[.int .i32 0, l], .agg #[f, g], v] w fun e w' => e = .returned (.tuple #[]) ∧ Below w.heap.size w w' := by
  go_enter Yba.func16, Yba.ntmps16
  go_wp2
  refine wp_loop_rounds 1 ?_
  rw [rounds_succ]
  go_wp2
  go_end0
  exact ⟨rfl, ((Below.refl _ _).alloc (Nat.le_refl _) _).alloc (by simp) _⟩

theorem writeKeys_any (p : Addr) (w : World) :
    Calls Yba.prog 17 #[.pointer (some p)] w fun e w' => (∃ f g, e = .returned (.agg #[f, g])) ∧ Below w.heap.size w w' := by
  go_enter Yba.func17, Yba.ntmps17
  go_wp2
  (try simp only [Exit.inBlock, Exit.then])
  refine bodyPost_ret (results_cell_row rfl _ _ (w.heap.size + 1) 147 _ (0, 0) _ rfl (heap_alloc2_new w _ _) Yba.underlying147 rfl (by kernel_rfl)) rfl ?_
  exact ⟨⟨_, _, rfl⟩, ((Below.refl _ _).alloc (Nat.le_refl _) _).alloc (by simp) _⟩

theorem clip_any (a : Option Addr) (n c : Nat) (w : World) (hc : n ≤ c) :
    Calls Yba.prog 18 #[.slice a n c] w fun e w' => e = .returned (.slice a n n) ∧ w' = w := by
  go_enter Yba.func18, Yba.ntmps18
  go_wp2
  go_ret
  exact ⟨rfl, rfl⟩

set_option maxRecDepth 100000 in
theorem given_zero (p l : Value) (f g v : Value) (w : World) :
    Calls Yba.prog 19 #[p, .slice none 0 0, .agg #[.int .i32 0, l], .agg #[f, g], v] w fun e w' => e = .returned (.slice none 0 0) ∧ Below w.heap.size w w' := by
  go_enter Yba.func19, Yba.ntmps19
  go_wp2
  refine wp_loop_rounds 1 ?_
  rw [rounds_succ]
  go_wp2
  go_ret
  exact ⟨rfl, ((Below.refl _ _).alloc (Nat.le_refl _) _).alloc (by simp) _⟩

theorem setCell_again (w : World) (b o : Nat) (v : Value) (h : w.cell? ⟨b, o, none⟩ = some v) : w.setCell ⟨b, o, none⟩ v = w := by
  obtain ⟨cs, t, f, hb, hc⟩ : ∃ cs t f, w.heap[b]? = some (.cells cs t f) ∧ cs[o]? = some v := by
    unfold World.cell? at h
    split at h
    · rename_i c t f hb
      exact ⟨c, t, f, hb, by simpa using h⟩
    · simp at h
  have e : cs.setIfInBounds o v = cs := by
    obtain ⟨ho, hv⟩ := Array.getElem?_eq_some_iff.1 hc
    apply Array.ext
    · simp
    · intro j h3 h4
      rw [Array.getElem_setIfInBounds]
      split
      · rename_i e2
        subst e2
        exact hv.symm
      · rfl
  have hh : (w.setCell ⟨b, o, none⟩ v).heap = w.heap := by
    apply Array.ext
    · simp
    · intro i h1 h2
      apply Option.some.inj
      rw [← Array.getElem?_eq_getElem, ← Array.getElem?_eq_getElem]
      by_cases hi : i = b
      · subst hi
        rw [setCell_eq_setRow w i o cs t f v hb, setRow_heap w i cs _ t f hb, e, hb]
      · simp [World.setCell, Array.getElem?_modify, Ne.symm hi]
  calc w.setCell ⟨b, o, none⟩ v = { w with heap := (w.setCell ⟨b, o, none⟩ v).heap } := rfl
    _ = w := by rw [hh]

set_option maxRecDepth 100000 in
theorem forget_zero (p : Addr) (u : Nat) (w : World) (h6 : w.cell? ⟨u, 6, none⟩ = some (.int .i32 0)) (h7 : w.cell? ⟨u, 7, none⟩ = some (.int .i32 0))
    (f6 : w.frozen? ⟨u, 6, none⟩ = false) (f7 : w.frozen? ⟨u, 7, none⟩ = false) :
    Calls Yba.prog 27 #[.pointer (some p), .pointer (some ⟨u, 6, none⟩)] w fun e w' => e = .returned (.tuple #[]) ∧ w' = w := by
  have e6 := setCell_again w u 6 _ h6
  have e7 := setCell_again w u 7 _ h7
  go_enter Yba.func27, Yba.ntmps27
  go_wp2_with (go_at_call 32; go_in)
  refine wp_loop_rounds 1 ?_
  rw [rounds_succ]
  go_wp2
  go_end0
  go_wp2
  go_end0
  exact ⟨rfl, rfl⟩

/-- what tally does -/
def tallied (w : World) (st : Nat) (k : Int) (conf : Bool) (ra ck : Int) : World :=
  let w1 := if k = 1 then w.setCell ⟨st, 125, none⟩ (.int .i64 (wrap64 (ra + 1))) else w
  if conf then w1.setCell ⟨st, 124, none⟩ (.int .i64 (wrap64 (ck + 1))) else w1

set_option maxRecDepth 100000 in
theorem tally_any (st : Nat) (k : Int) (o1 o2 o3 : Value) (conf : Bool) (ra ck : Int) (w : World) (hst : st < w.heap.size)
    (h5 : w.cell? ⟨st, 125, none⟩ = some (.int .i64 ra)) (h4 : w.cell? ⟨st, 124, none⟩ = some (.int .i64 ck)) (f5 : w.frozen? ⟨st, 125, none⟩ = false) (f4 : w.frozen? ⟨st, 124, none⟩ = false) :
    Calls Yba.prog 34 #[.pointer (some ⟨st, 0, none⟩), .agg #[.int .u8 k, o1, o2, o3], .bool conf, .bool true] w fun e w' => e = .returned (.tuple #[]) ∧ ∃ o, w' = (tallied w st k conf ra ck).alloc o := by
  go_enter Yba.func34, Yba.ntmps34
  go_wp2
  all_goals go_end0
  all_goals refine ⟨rfl, .cells #[.int .u8 k, o1, o2, o3] 113, ?_⟩
  all_goals simp_all [tallied]
end Go.Proofs.Ybulkedxc
