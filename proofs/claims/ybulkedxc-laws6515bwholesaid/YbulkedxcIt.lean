/-
  LawS6515BWhole: an item more.
-/
import Derived.Test.YbulkedxcLong
namespace Go.Proofs.Ybulkedxc
open Go.RowKit
attribute [local simp] setO_size setT_same

theorem info92 : (Yba.prog.info? 92).map (fun i => (i.zero, i.size, i.bytes)) = some (some (.agg #[.string ⟨#[]⟩, .int .i64 0, .int .i64 0]), 3, 32) := by kernel_rfl

set_option maxRecDepth 100000 in
set_option maxHeartbeats 1600000 in
theorem item_call (p j B n : Nat) (q : ByteArray) (xv : Value) (xs : List Value) (w : World) (NP : World → Prop) (hnum : Calls Yba.prog 13 #[.pointer (some ⟨p, 127, none⟩), .string q] w fun e w' => e = .returned (.tuple #[.int .i32 j, .bool true]) ∧ NP w')
    (hNP : ∀ W1, NP W1 → W1.cell? ⟨p, 131, none⟩ = some xv ∧ W1.frozen? ⟨p, 131, none⟩ = false ∧ W1.ownsRow B 92 3 xv n xs ∧ p < W1.heap.size ∧ B ≤ W1.heap.size) (hap : xv.ownBlock ≠ some p) (hn : n ≤ 4) :
    Calls Yba.prog 5 #[.pointer (some ⟨p, 0, none⟩), .string q] w fun e w' => e = .returned (.int .i32 j) ∧ ∃ W1, NP W1 ∧ ∃ g cap w2, w2.ownsRow B 92 3 (.slice (some ⟨g, 0, none⟩) (n + 1) cap) (n + 1) (xs ++ [.string q, .int .i64 0, .int .i64 0]) ∧
      (W1.alloc (.cells #[.string q, .int .i64 0, .int .i64 0] 92)).grownBy w2 xv.ownBlock ∧ (xv.ownBlock = some g ∨ g = W1.heap.size + 1) ∧ g < w2.heap.size ∧ w' = w2.setCell ⟨p, 131, none⟩ (.slice (some ⟨g, 0, none⟩) (n + 1) cap) := by
  obtain ⟨i0, hi, hz0, hz1, hz2⟩ := info_parts info92
  have HN := hid hnum
  have HNP := hid hNP
  clear hnum hNP
  go_enter Yba.func5, Yba.ntmps5
  go_wp2_with (first | (go_at_call 13; refine HN.out.mono ?_; rintro e W1 ⟨rfl, hW1⟩; obtain ⟨h1, f1, hown, hp, hB⟩ := HNP.out W1 hW1; have HO := hid hown; have HW1 := hid hW1; clear hown hW1) | (at_builtin; refine wpList_append_lies _ rfl _ _ _ rfl B 92 i0 (.agg #[.string ⟨#[]⟩, .int .i64 0, .int .i64 0]) 3 32 Yba.underlying86 hi hz0 hz1 hz2 rfl (by omega) xv n xs rfl (HO.out.alloc _) ⟨_, 0, none⟩ 1 1 [.string q, .int .i64 0, .int .i64 0] rfl rfl (World.news_of_block (cs := #[.string q, .int .i64 0, .int .i64 0]) (t := 92) (fr := (0, 0)) (heap_alloc_new _ _)) (by simp [Value.oneCell']) (by omega) (by unfold maxLen; omega) (by omega) (by simp; omega) _ (by simp; rfl) ?_))
  intro g cap w2 hown2 hgrow hat hlt
  have hc : w2.cell? ⟨p, 131, none⟩ = some xv := by
    rw [hgrow.cell_far ⟨p, 131, none⟩ (by simp; omega) (Ne.symm hap), World.cell?_alloc_past _ _ _ hp]
    exact h1
  have hf : w2.frozen? ⟨p, 131, none⟩ = false := by
    rw [hgrow.frozen_far ⟨p, 131, none⟩ (by simp; omega) (Ne.symm hap), World.frozen?_alloc_past _ _ _ hp]
    exact f1
  have HO2 := hid hown2
  have HG := hid hgrow
  clear hown2 hgrow h1 f1
  go_wp2
  go_ret
  exact ⟨rfl, W1, HW1.out, g, cap, w2, HO2.out, HG.out, hat, hlt, rfl⟩
end Go.Proofs.Ybulkedxc
