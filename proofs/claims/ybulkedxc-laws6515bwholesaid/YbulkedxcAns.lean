/-
  LawS6515BWhole: a waiting request is answered.
-/
import Derived.Test.YbulkedxcMem
import Derived.Maps.AppendAt
import Derived.Deep.AppendLies
import Derived.Deep.RegionHeld3
import Derived.Deep.RegionLaw
namespace Go.Proofs.Ybulkedxc
open Go.RowKit

theorem info3 : (Yba.prog.info? 3).map (fun i => (i.zero, i.size, i.bytes)) = some (some (.int .i64 0), 1, 8) := by kernel_rfl

set_option maxRecDepth 100000 in
set_option maxHeartbeats 1600000 in
theorem park_call (num : Int) (pn pl lg B n : Nat) (lv : Value) (xs : List Value) (w : World) (h1 : w.cell? ⟨pn, 0, none⟩ = some (.int .i64 num)) (h2 : w.cell? ⟨pl, 0, none⟩ = some (ptr lg))
    (h3 : w.cell? ⟨lg, 0, none⟩ = some lv) (f3 : w.frozen? ⟨lg, 0, none⟩ = false) (hown : w.ownsRow B 3 1 lv n xs) (hn : n ≤ 1048576) (hB : B ≤ w.heap.size)
    (hl : pl < w.heap.size) (hg : lg < w.heap.size) (al : lv.ownBlock ≠ some pl) (ag : lv.ownBlock ≠ some lg) :
    Calls Yba.prog 14 #[.bool false, ptr pn, ptr pl] w fun e w' => e = .returned (.tuple #[]) ∧ ∃ g cap w2, w2.ownsRow B 3 1 (.slice (some ⟨g, 0, none⟩) (n + 1) cap) (n + 1) (xs ++ [.int .i64 (wrap64 (num * 2))]) ∧
      (w.alloc (.cells #[.int .i64 (wrap64 (num * 2))] 3)).drew.grownBy w2 lv.ownBlock ∧ (lv.ownBlock = some g ∨ g = w.heap.size + 1) ∧ g < w2.heap.size ∧ w' = w2.setCell ⟨lg, 0, none⟩ (.slice (some ⟨g, 0, none⟩) (n + 1) cap) := by
  unfold ptr at *
  obtain ⟨i0, hi, hz0, hz1, hz2⟩ := info_parts info3
  generalize hx : wrap64 (num * 2) = x
  have fa : (w.alloc (.cells #[.int .i64 x] 3)).drew.frozen? ⟨lg, 0, none⟩ = false := by
    show (w.alloc (.cells #[.int .i64 x] 3)).frozen? ⟨lg, 0, none⟩ = false
    rw [World.frozen?_alloc_past _ _ _ hg]; exact f3
  have ca : (w.alloc (.cells #[.int .i64 x] 3)).drew.cell? ⟨lg, 0, none⟩ = some lv := by
    show (w.alloc (.cells #[.int .i64 x] 3)).cell? ⟨lg, 0, none⟩ = some lv
    rw [World.cell?_alloc_past _ _ _ hg]; exact h3
  have cb : (w.alloc (.cells #[.int .i64 x] 3)).drew.cell? ⟨pl, 0, none⟩ = some (.pointer (some ⟨lg, 0, none⟩)) := by
    show (w.alloc (.cells #[.int .i64 x] 3)).cell? ⟨pl, 0, none⟩ = _
    rw [World.cell?_alloc_past _ _ _ hl]; exact h2
  go_enter Yba.func14, Yba.ntmps14
  go_wp2_with fail
  go_region_law
    ((refine step_append_lies _ (by rfl) _ _ _ (by rfl) B 3 i0 _ 1 8 Yba.underlying25 hi hz0 hz1 hz2 rfl (by omega) lv n xs (by rfl) ((hown.alloc _).drew)
        ⟨w.heap.size, 0, none⟩ 1 1 [.int .i64 x] (by rfl) (by rfl) (World.news_of_block (cs := #[.int .i64 x]) (t := 3) (fr := (0, 0)) (heap_alloc_new w _)) (by simp [Value.oneCell'])
        (by omega) (by unfold maxLen; omega) (by omega) (by simp; omega) (w.heap.size + 1) (by simp) ?_; intro g cap w1 hown1 hgrow hat hlt; have fz : w1.frozen? ⟨lg, 0, none⟩ = false := (hgrow.frozen_far ⟨lg, 0, none⟩ (by simp; omega) (Ne.symm ag)).trans fa; have cl : w1.cell? ⟨lg, 0, none⟩ = some lv := (hgrow.cell_far ⟨lg, 0, none⟩ (by simp; omega) (Ne.symm ag)).trans ca; have cp : w1.cell? ⟨pl, 0, none⟩ = some (.pointer (some ⟨lg, 0, none⟩)) := (hgrow.cell_far ⟨pl, 0, none⟩ (by simp; omega) (Ne.symm al)).trans cb))
  all_goals (go_end0; exact ⟨rfl, g, cap, w1, hown1, hgrow, hat, hlt, rfl⟩)
end Go.Proofs.Ybulkedxc
