/-
  LawS6515CWhole: (*Int).Add, (*Int).Cmp of big.Ints as they lie.
-/
import Derived.Test.YbulkedxcFmtInt
namespace Go.Proofs.YbulkedxcFmt
open Go.RowKit

/-- a new big.Int, as 'new' lays it -/
def Fresh (w : World) (z : Nat) : Prop := w.heap[z]? = some (.cells #[.bool false, .slice none 0 0] 81 (0, 0))

theorem Fresh.lt {w : World} {z : Nat} (h : Fresh w z) : z < w.heap.size := by
  unfold Fresh at h
  rcases Nat.lt_or_ge z w.heap.size with h' | h'
  · exact h'
  · rw [Array.getElem?_eq_none h'] at h; cases h
theorem Fresh.c0 {w : World} {z : Nat} (h : Fresh w z) : w.cell? ⟨z, 0, none⟩ = some (.bool false) := by
  unfold Fresh at h; simp [World.cell?, h]
theorem Fresh.c1 {w : World} {z : Nat} (h : Fresh w z) : w.cell? ⟨z, 1, none⟩ = some (.slice none 0 0) := by
  unfold Fresh at h; simp [World.cell?, h]
theorem Fresh.f {w : World} {z : Nat} (h : Fresh w z) (o : Nat) : w.frozen? ⟨z, o, none⟩ = false := by
  unfold Fresh at h; simp [World.frozen?, h]
theorem Fresh.later {w w' : World} {z : Nat} (h : Fresh w z) (hb : Below w.heap.size w w') : Fresh w' z := (hb.block z h.lt).trans h

theorem intAdd (z px py : Nat) (a b : Int) (w : World) (hz : Fresh w z) (hx : BigAt w px a) (hy : BigAt w py b) (a1 : -9223372036854775808 ≤ a) (a2 : a ≤ 9223372036854775807) (b1 : -9223372036854775808 ≤ b) (b2 : b ≤ 9223372036854775807) :
    Calls Ybaf.prog 5 #[.pointer (some ⟨z, 0, none⟩), .pointer (some ⟨px, 0, none⟩), .pointer (some ⟨py, 0, none⟩)] w fun e w' =>
      e = .returned (.pointer (some ⟨z, 0, none⟩)) ∧ Below z w w' ∧ BigAt w' z (a + b) := by
  obtain ⟨x1, _, x2, sa, sn, sc, x3, x4⟩ := hx
  obtain ⟨y1, _, y2, ta, tn, tc, y3, y4⟩ := hy
  by_cases ha : a < 0 <;> by_cases hb : b < 0
  · simp only [ha, hb, decide_true, if_true] at x2 y2 x4 y4
    refine (addSame z px py true false _ _ _ _ w hz.lt ⟨_, hz⟩ hz.c0 hz.c1 (hz.f 0) (hz.f 1) x2 x3 y2 y3 x4 y4 (by omega) (by omega)).mono ?_
    rintro e w' ⟨rfl, hB, hlt, hh, ra, rn, rc, h1, h2, h0⟩
    refine ⟨rfl, hB, hlt, hh, ?_, ra, rn, rc, h1, ?_⟩
    · rw [h0, h2.pos]; simp; omega
    · rw [if_pos (by omega), show -(a + b) = -a + -b from by omega]; exact h2
  · simp only [ha, hb, decide_true, decide_false, if_true, if_false] at x2 y2 x4 y4
    by_cases hc : b ≤ -a
    · refine (addGe z px py true false _ _ _ _ w hz.lt ⟨_, hz⟩ hz.c0 hz.c1 (hz.f 0) (hz.f 1) x2 x3 y2 y3 x4 y4 (by omega) (by omega) hc (by omega)).mono ?_
      rintro e w' ⟨rfl, hB, hlt, hh, ra, rn, rc, h1, h2, h0⟩
      refine ⟨rfl, hB, hlt, hh, ?_, ra, rn, rc, h1, ?_⟩
      · rw [h0, h2.pos]; simp; omega
      · by_cases h : a + b < 0
        · rw [if_pos h, show -(a + b) = -a - b from by omega]; exact h2
        · rw [if_neg h, show a + b = -a - b from by omega]; exact h2
    · refine (addLt z px py true false _ _ _ _ w hz.lt ⟨_, hz⟩ hz.c0 hz.c1 (hz.f 0) (hz.f 1) x2 x3 y2 y3 x4 y4 (by omega) (by omega) (by omega)).mono ?_
      rintro e w' ⟨rfl, hB, hlt, hh, ra, rn, rc, h1, h2, h0⟩
      refine ⟨rfl, hB, hlt, hh, ?_, ra, rn, rc, h1, ?_⟩
      · rw [h0, h2.pos]; simp; omega
      · rw [if_neg (by omega), show a + b = b - -a from by omega]; exact h2
  · simp only [ha, hb, decide_true, decide_false, if_true, if_false] at x2 y2 x4 y4
    by_cases hc : -b ≤ a
    · refine (addGe z px py false false _ _ _ _ w hz.lt ⟨_, hz⟩ hz.c0 hz.c1 (hz.f 0) (hz.f 1) x2 x3 y2 y3 x4 y4 (by omega) (by omega) hc (by omega)).mono ?_
      rintro e w' ⟨rfl, hB, hlt, hh, ra, rn, rc, h1, h2, h0⟩
      refine ⟨rfl, hB, hlt, hh, ?_, ra, rn, rc, h1, ?_⟩
      · rw [h0, h2.pos]; simp; omega
      · rw [if_neg (by omega), show a + b = a - -b from by omega]; exact h2
    · refine (addLt z px py false false _ _ _ _ w hz.lt ⟨_, hz⟩ hz.c0 hz.c1 (hz.f 0) (hz.f 1) x2 x3 y2 y3 x4 y4 (by omega) (by omega) (by omega)).mono ?_
      rintro e w' ⟨rfl, hB, hlt, hh, ra, rn, rc, h1, h2, h0⟩
      refine ⟨rfl, hB, hlt, hh, ?_, ra, rn, rc, h1, ?_⟩
      · rw [h0, h2.pos]; simp; omega
      · rw [if_pos (by omega), show -(a + b) = -b - a from by omega]; exact h2
  · simp only [ha, hb, decide_false, if_false] at x2 y2 x4 y4
    refine (addSame z px py false false _ _ _ _ w hz.lt ⟨_, hz⟩ hz.c0 hz.c1 (hz.f 0) (hz.f 1) x2 x3 y2 y3 x4 y4 (by omega) (by omega)).mono ?_
    rintro e w' ⟨rfl, hB, hlt, hh, ra, rn, rc, h1, h2, h0⟩
    refine ⟨rfl, hB, hlt, hh, ?_, ra, rn, rc, h1, ?_⟩
    · rw [h0, h2.pos]; simp; omega
    · rw [if_neg (by omega)]; exact h2

set_option maxHeartbeats 400000 in
theorem intCmp (px py : Nat) (a b : Int) (w : World) (hx : BigAt w px a) (hy : BigAt w py b) (hne : px ≠ py) (b1 : -18446744073709551616 < b) (b2 : b < 18446744073709551616) :
    Calls Ybaf.prog 9 #[.pointer (some ⟨px, 0, none⟩), .pointer (some ⟨py, 0, none⟩)] w fun e w' =>
      e = .returned (.int .i64 (sgn3 a b)) ∧ ∃ n, w' = w.drewN n := by
  obtain ⟨x1, ⟨cx, x0⟩, x2, sa, sn, sc, x3, x4⟩ := hx
  obtain ⟨y1, ⟨cy, y0⟩, y2, ta, tn, tc, y3, y4⟩ := hy
  have heq : (binOp .eql 77 (.pointer (some ⟨px, 0, none⟩)) (.pointer (some ⟨py, 0, none⟩))).run Ybaf.prog w = .ok (.bool false) w :=
    run_eql_ptr_other (P := Ybaf.prog) (te := 81) (j := Ybaf.t81) w Ybaf.underlying77 (by kernel_rfl) (by decide +kernel) (by intro h; cases h; exact hne rfl) x0 y0
  clear x0 y0
  by_cases ha : a < 0 <;> by_cases hb : b < 0
  · simp only [ha, hb, decide_true, if_true] at x2 y2 x4 y4
    have hs : sgn3 a b = - sgn3 (-a) (-b) := by unfold sgn3; split <;> split <;> (try split) <;> (try split) <;> omega
    have hs1 : -1 ≤ sgn3 (-a) (-b) ∧ sgn3 (-a) (-b) ≤ 1 := by unfold sgn3; split <;> (try split) <;> omega
    obtain ⟨hs1, hs2⟩ := hs1
    rw [hs]
    clear hs
    go_enter Ybaf.func9, Ybaf.ntmps9
    go_wp2_with fail
    go_quiet (fail)
    go_wp2_with fail
    go_quiet ((go_at_call 18; exact quiet_of2 (natCmp3 _ _ (-a) (-b) _ (by exact x4) (by exact y4) (by omega))))
    go_wp2_with fail
    go_ret
    exact ⟨rfl, _, rfl⟩
  · simp only [ha, hb, decide_true, decide_false] at x2 y2
    have hs : sgn3 a b = -1 := by unfold sgn3; rw [if_pos (by omega)]
    rw [hs]
    clear hs
    go_enter Ybaf.func9, Ybaf.ntmps9
    go_wp2_with fail
    go_quiet (fail)
    go_wp2_with fail
    go_ret
    exact ⟨rfl, _, rfl⟩
  · simp only [ha, hb, decide_true, decide_false] at x2 y2
    have hs : sgn3 a b = 1 := by unfold sgn3; rw [if_neg (by omega), if_neg (by omega)]
    rw [hs]
    clear hs
    go_enter Ybaf.func9, Ybaf.ntmps9
    go_wp2_with fail
    go_quiet (fail)
    go_wp2_with fail
    go_ret
    exact ⟨rfl, _, rfl⟩
  · simp only [ha, hb, decide_false, if_false] at x2 y2 x4 y4
    go_enter Ybaf.func9, Ybaf.ntmps9
    go_wp2_with fail
    go_quiet (fail)
    go_wp2_with fail
    go_quiet ((go_at_call 18; exact quiet_of2 (natCmp3 _ _ a b _ (by exact x4) (by exact y4) (by omega))))
    go_wp2_with fail
    go_ret
    exact ⟨rfl, _, rfl⟩
end Go.Proofs.YbulkedxcFmt
