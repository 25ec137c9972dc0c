/-
  LawS6515CWhole: new(big.Int).Lsh(1, 64) and new(big.Int).Sub(MaxInt32, 2^64).
-/
import Derived.Test.YbulkedxcFmtInt2
namespace Go.Proofs.YbulkedxcFmt
open Go.RowKit

/-- 2^64 as Lsh has laid it: two words, 0 and 1 -/
def TwoAt (w : World) (p b : Nat) : Prop :=
  p < w.heap.size ∧ w.cell? ⟨p, 0, none⟩ = some (.bool false) ∧ w.cell? ⟨p, 1, none⟩ = some (.slice (some ⟨b, 0, none⟩) 2 7) ∧ b < w.heap.size ∧ w.heap[b]? = some (.cells #[.int .u64 0, .int .u64 1, .int .u64 0, .int .u64 0, .int .u64 0, .int .u64 0, .int .u64 0] 92 (0, 0))

theorem TwoAt.later {w w' : World} {p b : Nat} (h : TwoAt w p b) (hb : Below w.heap.size w w') : TwoAt w' p b := by
  have hs := hb.size
  obtain ⟨h1, h2, h3, h4, h5⟩ := h
  exact ⟨by omega, (hb.cell (p := ⟨p, 0, none⟩) h1).trans h2, (hb.cell (p := ⟨p, 1, none⟩) h1).trans h3, by omega, (hb.block b h4).trans h5⟩

theorem two_end (w : World) (z : Nat) (hlt : z < w.heap.size) (hz0 : w.cell? ⟨z, 0, none⟩ = some (.bool false)) (hz1 : w.cell? ⟨z, 1, none⟩ = some (.slice none 0 0)) :
    Below z w (((w.setCell ⟨z, 1, none⟩ (.slice (some ⟨w.heap.size, 0, none⟩) 2 7)).setCell ⟨z, 0, none⟩ (.bool false)).alloc (.cells #[.int .u64 0, .int .u64 1, .int .u64 0, .int .u64 0, .int .u64 0, .int .u64 0, .int .u64 0] 92)).drew ∧
    TwoAt (((w.setCell ⟨z, 1, none⟩ (.slice (some ⟨w.heap.size, 0, none⟩) 2 7)).setCell ⟨z, 0, none⟩ (.bool false)).alloc (.cells #[.int .u64 0, .int .u64 1, .int .u64 0, .int .u64 0, .int .u64 0, .int .u64 0, .int .u64 0] 92)).drew z w.heap.size := by
  have hs : ((w.setCell ⟨z, 1, none⟩ (.slice (some ⟨w.heap.size, 0, none⟩) 2 7)).setCell ⟨z, 0, none⟩ (.bool false)).heap.size = w.heap.size := by simp [World.setCell]
  have e0 : ((w.setCell ⟨z, 1, none⟩ (.slice (some ⟨w.heap.size, 0, none⟩) 2 7)).setCell ⟨z, 0, none⟩ (.bool false)).cell? ⟨z, 0, none⟩ = some (.bool false) := by simp [go_sem, hz0]
  have e1 : ((w.setCell ⟨z, 1, none⟩ (.slice (some ⟨w.heap.size, 0, none⟩) 2 7)).setCell ⟨z, 0, none⟩ (.bool false)).cell? ⟨z, 1, none⟩ = some (.slice (some ⟨w.heap.size, 0, none⟩) 2 7) := by simp [go_sem, hz1]
  have hB0 : Below z w ((w.setCell ⟨z, 1, none⟩ (.slice (some ⟨w.heap.size, 0, none⟩) 2 7)).setCell ⟨z, 0, none⟩ (.bool false)) := ((Below.refl z w).setCell (p := ⟨z, 1, none⟩) (Nat.le_refl _) _).setCell (p := ⟨z, 0, none⟩) (Nat.le_refl _) _
  generalize ((w.setCell ⟨z, 1, none⟩ (.slice (some ⟨w.heap.size, 0, none⟩) 2 7)).setCell ⟨z, 0, none⟩ (.bool false)) = V at *
  refine ⟨(hB0.alloc (by omega) _).drew, by simp; omega, ?_, ?_, by simp; omega, ?_⟩
  · show (V.alloc _).cell? _ = _
    rw [World.cell?_alloc_past _ _ _ (by omega)]; exact e0
  · show (V.alloc _).cell? _ = _
    rw [World.cell?_alloc_past _ _ _ (by omega)]; exact e1
  · rw [← hs]; exact (MapKept.heap_alloc V _).1

set_option maxHeartbeats 800000 in
theorem lshC (z px b c : Nat) (w : World) (hz : Fresh w z) (hb : b < w.heap.size) (hx0 : w.cell? ⟨px, 0, none⟩ = some (.bool false)) (hx1 : w.cell? ⟨px, 1, none⟩ = some (.slice (some ⟨b, 0, none⟩) 1 c)) (hx : w.cell? ⟨b, 0, none⟩ = some (.int .u64 1)) (_hpx : px < w.heap.size) (hne : z ≠ px) :
    Calls Ybaf.prog 7 #[.pointer (some ⟨z, 0, none⟩), .pointer (some ⟨px, 0, none⟩), .int .u64 64] w fun e w' =>
      e = .returned (.pointer (some ⟨z, 0, none⟩)) ∧ Below z w w' ∧ TwoAt w' z w.heap.size := by
  have hz0 := hz.c0
  have hz1 := hz.c1
  have hf0 := hz.f 0
  have hf1 := hz.f 1
  have hlt := hz.lt
  have hneq : w.heap.size ≠ z := by omega
  have hpz : px ≠ z := fun h => hne h.symm
  go_enter Ybaf.func7, Ybaf.ntmps7
  go_wp2
  go_region_with ((first | (go_at_call 20; refine (lshL b c _ (by exact hb) (by exact hx)).mono ?_; rintro e w' ⟨rfl, rfl⟩)))
  all_goals go_wp2_with fail
  all_goals go_ret
  all_goals exact ⟨rfl, two_end w z hlt hz0 hz1⟩

theorem quiet_same2 {P : Program} {f : FuncId} {args : Array Value} {w : World} {a n : Nat} {v : Value}
    (h : Calls P f args (w.drewN (a + n)) fun e w' => e = .returned v ∧ w' = w.drewN (a + n)) : Calls P f args (w.drewN (a + n)) fun e w'' => e = .returned v ∧ ∃ m, w'' = w.drewN (a + m) :=
  h.mono fun _ _ ⟨he, hm⟩ => ⟨he, n, hm⟩
theorem cmpC (a a' : Option Addr) (c c' : Nat) (w : World) : Calls Ybaf.prog 18 #[.slice a 1 c, .slice a' 2 c'] w fun e w' => e = .returned (.int .i64 (-1)) ∧ w' = w := cmpLt a a' c c' 1 2 w (by omega)

theorem word0 : Word 0 := ⟨by omega, by omega⟩
theorem wordM : Word 2147483647 := ⟨by omega, by omega⟩

theorem sub_end (w w' : World) (z : Nat) (hz : Fresh w z) (hB : Below w.heap.size w w') (hC : w'.cell? ⟨w.heap.size, 0, none⟩ = some (.int .u64 (dl 0 2147483647))) (hS : w.heap.size < w'.heap.size) :
    Below z w ((w'.setCell ⟨z, 1, none⟩ (.slice (some ⟨w.heap.size, 0, none⟩) 1 6)).setCell ⟨z, 0, none⟩ (.bool true)) ∧
    BigAt ((w'.setCell ⟨z, 1, none⟩ (.slice (some ⟨w.heap.size, 0, none⟩) 1 6)).setCell ⟨z, 0, none⟩ (.bool true)) z (2147483647 - 18446744073709551616) := by
  have hlt := hz.lt
  have hz' := hz.later hB
  have hN : NatAt w' (.slice (some ⟨w.heap.size, 0, none⟩) 1 6) (18446744073709551616 - 2147483647) := by
    have e : dl 0 2147483647 = 18446744073709551616 - 2147483647 := by unfold dl; omega
    rw [e] at hC
    exact Or.inr (Or.inl ⟨_, _, rfl, by omega, hS, hC, by omega, by omega⟩)
  refine ⟨((hB.mono (Nat.le_of_lt hlt)).setCell (p := ⟨z, 1, none⟩) (Nat.le_refl _) _).setCell (p := ⟨z, 0, none⟩) (Nat.le_refl _) _, by simp [World.setCell]; omega, heap2 ⟨_, hz'⟩ _ _ _ _, by simp [go_sem, hz'.c0], _, _, _, by simp [go_sem, hz'.c1]; exact ⟨rfl, rfl, rfl⟩, ?_⟩
  rw [if_pos (by omega), show -((2147483647 : Int) - 18446744073709551616) = 18446744073709551616 - 2147483647 from by omega]
  refine (hN.setCell _ _ ?_).setCell _ _ ?_
  · intro ad h; cases h; simp; omega
  · intro ad h; cases h; simp; omega

set_option maxHeartbeats 800000 in
theorem subC (z px py b c b2 : Nat) (w : World) (hz : Fresh w z) (hb : b < w.heap.size) (hc : 1 ≤ c) (hx0 : w.cell? ⟨px, 0, none⟩ = some (.bool false)) (hx1 : w.cell? ⟨px, 1, none⟩ = some (.slice (some ⟨b, 0, none⟩) 1 c)) (hx : w.cell? ⟨b, 0, none⟩ = some (.int .u64 2147483647)) (hy : TwoAt w py b2) :
    Calls Ybaf.prog 8 #[.pointer (some ⟨z, 0, none⟩), .pointer (some ⟨px, 0, none⟩), .pointer (some ⟨py, 0, none⟩)] w fun e w' =>
      e = .returned (.pointer (some ⟨z, 0, none⟩)) ∧ Below z w w' ∧ BigAt w' z (2147483647 - 18446744073709551616) := by
  obtain ⟨y1, y2, y3, y4, y5⟩ := hy
  have c0 : w.cell? ⟨b2, 0, none⟩ = some (.int .u64 0) := by simp [World.cell?, y5]
  have c1 : w.cell? ⟨b2, 1, none⟩ = some (.int .u64 1) := by simp [World.cell?, y5]
  have HY : Hid (w.heap[b2]? = some (.cells #[.int .u64 0, .int .u64 1, .int .u64 0, .int .u64 0, .int .u64 0, .int .u64 0, .int .u64 0] 92 (0, 0))) := y5
  clear y5
  have HZ : Hid (Fresh w z) := hz
  have hz0 := hz.c0
  have hz1 := hz.c1
  have hf0 := hz.f 0
  have hf1 := hz.f 1
  have hlt := hz.lt
  clear hz
  go_enter Ybaf.func8, Ybaf.ntmps8
  go_wp2
  go_quiet (fail)
  go_wp2_with fail
  go_quiet ((go_at_call 18; exact quiet_same2 (cmpC _ _ _ _ _)))
  go_wp2_with fail
  go_region_with ((first | (go_at_call 19; refine (sub21 b2 b c 0 1 2147483647 word0 word1 wordM _ (by exact y4) (by exact hb) hc _ 92 (by exact HY.out) (by exact c0) (by exact c1) (by exact hx) rfl rfl rfl rfl).mono ?_; rintro e w' ⟨rfl, hB, hC, hS⟩; have hz1' := (hB.cell (p := ⟨z, 1, none⟩) hlt).trans hz1; have hf1' := (hB.frozen (p := ⟨z, 1, none⟩) hlt).trans hf1; have hz0' := (hB.cell (p := ⟨z, 0, none⟩) hlt).trans hz0; have hf0' := (hB.frozen (p := ⟨z, 0, none⟩) hlt).trans hf0)))
  all_goals go_wp2_with fail
  all_goals go_ret
  all_goals exact ⟨rfl, sub_end w _ z HZ.out ((below_drewN (Below.refl _ _) _).trans hB) hC hS⟩
end Go.Proofs.YbulkedxcFmt
