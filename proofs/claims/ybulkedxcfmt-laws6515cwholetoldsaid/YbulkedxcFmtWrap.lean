/-
  LawS6515CWhole: the walk of the law where the bound wraps.
-/
import Derived.Test.YbulkedxcFmtLaw
namespace Go.Proofs.YbulkedxcFmt
open Go.RowKit Go.Extern.Stop Go.Stop Go.Extern

theorem BigAt.one {w : World} {p : Nat} {v : Int} (h : BigAt w p v) (h1 : 0 < v) (h2 : v < 18446744073709551616) :
    ∃ b c, p < w.heap.size ∧ w.cell? ⟨p, 0, none⟩ = some (.bool false) ∧ w.cell? ⟨p, 1, none⟩ = some (.slice (some ⟨b, 0, none⟩) 1 c) ∧ 1 ≤ c ∧ b < w.heap.size ∧ w.cell? ⟨b, 0, none⟩ = some (.int .u64 v) := by
  obtain ⟨x1, _, x2, sa, sn, sc, x3, x4⟩ := h
  rw [if_neg (by omega)] at x4
  have e : decide (v < 0) = false := by simp; omega
  rw [e] at x2
  rcases x4 with ⟨_, _, _, h⟩ | ⟨b, c, h3, h4, h5, h6, _⟩ | ⟨_, _, _, _, _, h, _⟩
  · omega
  · rw [h3] at x3; exact ⟨b, c, x1, x2, x3, h4, h5, h6⟩
  · omega

set_option maxRecDepth 100000 in
set_option maxHeartbeats 1600000 in
/-- the law behind room's answer: the bound wraps -/
theorem law_wrap (t n : Int) (w : World) (r : Bool) (err : Value) (hr : Refused err r) (hrr : r = decide (2147483647 - 18446744073709551616 < t + n)) (t1 : -9223372036854775808 ≤ t) (t2 : t ≤ 9223372036854775807) (n0 : -9223372036854775808 ≤ n) (n1 : n < -9223372034707292160) (n2 : n ≤ 9223372036854775807)
    (hroom : ∀ W : World, W.tape = w.tape → W.heap.size = w.heap.size + 1 → W.cell? ⟨w.heap.size, 108, none⟩ = some (.int .i64 t) → Calls Ybaf.prog 4 #[.pointer (some ⟨w.heap.size, 0, none⟩), .int .i64 n] W fun e w' => e = .returned err ∧ Below W.heap.size W w') :
    Calls Ybaf.prog 3 #[.int .i64 t, .int .i64 n] w fun e w' => e = .returned (.bool true) ∧ Below w.heap.size w w' := by
  obtain ⟨zs, hsz, hz73⟩ := zero73
  have HM : Hid (∀ W : World, W.tape = w.tape → W.heap.size = w.heap.size + 1 → W.cell? ⟨w.heap.size, 108, none⟩ = some (.int .i64 t) → Calls Ybaf.prog 4 #[.pointer (some ⟨w.heap.size, 0, none⟩), .int .i64 n] W fun e w' => e = .returned err ∧ Below W.heap.size W w') := hroom
  clear hroom
  have K0 : Hid (Keeps w (w.alloc (.cells (zs.setIfInBounds 108 (.int .i64 t)) 73)) t) := ⟨(Below.refl _ _).alloc (Nat.le_refl _) _, by simp, by simp [go_sem, hsz]⟩
  go_enter Ybaf.func3, Ybaf.ntmps3
  go_wp2_with fail
  refine (HM.out _ (by exact rfl) (by exact sz_alloc _ _) (by exact K0.out.2.2)).mono ?_
  rintro e w1 ⟨rfl, hB1⟩
  have K1 : Hid (Keeps w w1 t) := K0.out.later hB1 K0.out.2.1
  clear hB1 K0 HM
  go_wp2_with fail
  refine (newInt t _ t1 t2).mono ?_
  rintro e w2 ⟨p2, rfl, hp2, hA2, hB2⟩
  rw [sz_alloc] at hp2
  have F2 : Hid (Fresh w2 w1.heap.size) := (fresh_alloc w1).later hB2
  have K2 : Hid (Keeps w w2 t) := (K1.out.later ((Below.refl w1.heap.size w1).alloc (Nat.le_refl _) _) K1.out.2.1).later hB2 (by rw [sz_alloc]; have := K1.out.2.1; omega)
  have A2 : Hid (BigAt w2 p2 t) := hA2
  clear hB2 hA2
  go_wp2_with fail
  refine (newInt n _ n0 n2).mono ?_
  rintro e w3 ⟨p3, rfl, hp3, hA3, hB3⟩
  have F3 : Hid (Fresh w3 w1.heap.size) := F2.out.later hB3
  have K3 : Hid (Keeps w w3 t) := K2.out.later hB3 K2.out.2.1
  have A3 : Hid (BigAt w3 p2 t) := A2.out.later hB3
  have C3 : Hid (BigAt w3 p3 n) := hA3
  clear hB3 hA3 F2 K2 A2
  go_wp2_with fail
  refine (intAdd w1.heap.size p2 p3 t n _ (by exact F3.out) (by exact A3.out) (by exact C3.out) t1 t2 n0 n2).mono ?_
  rintro e w4 ⟨rfl, hB4, hA4⟩
  have K4 : Hid (Keeps w w4 t) := K3.out.later hB4 K1.out.2.1
  have A4 : Hid (BigAt w4 w1.heap.size (t + n)) := hA4
  clear hB4 hA4 A3 C3 F3 K3
  go_wp2_with fail
  refine (newInt 2147483647 _ (by omega) (by omega)).mono ?_
  rintro e w5 ⟨p5, rfl, hp5, hA5, hB5⟩
  have K5 : Hid (Keeps w w5 t) := K4.out.later hB5 K4.out.2.1
  have A5 : Hid (BigAt w5 w1.heap.size (t + n)) := A4.out.later hB5
  have C5 : Hid (BigAt w5 p5 2147483647) := hA5
  have l5 : w1.heap.size < w5.heap.size := A5.out.1
  clear hB5 hA5 A4 K4
  go_wp2_with fail
  refine (newInt 1 _ (by omega) (by omega)).mono ?_
  rintro e w6 ⟨p6, rfl, hp6, hA6, hB6⟩
  rw [sz_alloc] at hp6
  have G6 : Hid (Below w5.heap.size w5 w6) := ((Below.refl w5.heap.size w5).alloc (Nat.le_refl _) (.cells #[.bool false, .slice none 0 0] 81)).trans (hB6.mono (by simp))
  have F6 : Hid (Fresh w6 w5.heap.size) := (fresh_alloc w5).later hB6
  obtain ⟨b6, c6, q1, q2, q3, q4, q5, q6⟩ := hA6.one (by omega) (by omega)
  have Q : Hid (p6 < w6.heap.size ∧ w6.cell? ⟨p6, 0, none⟩ = some (.bool false) ∧ w6.cell? ⟨p6, 1, none⟩ = some (.slice (some ⟨b6, 0, none⟩) 1 c6) ∧ 1 ≤ c6 ∧ b6 < w6.heap.size ∧ w6.cell? ⟨b6, 0, none⟩ = some (.int .u64 1)) := ⟨q1, q2, q3, q4, q5, q6⟩
  have hne6 : w5.heap.size ≠ p6 := by omega
  clear hB6 hA6 q1 q2 q3 q4 q5 q6
  go_wp2_with fail
  refine (lshC w5.heap.size p6 b6 c6 _ (by exact F6.out) (by exact Q.out.2.2.2.2.1) (by exact Q.out.2.1) (by exact Q.out.2.2.1) (by exact Q.out.2.2.2.2.2) (by exact Q.out.1) hne6).mono ?_
  rintro e w7 ⟨rfl, hB7, hT7⟩
  have G7 := G6.out.trans hB7
  have K7 : Hid (Keeps w w7 t) := K5.out.later G7 K5.out.2.1
  have A7 : Hid (BigAt w7 w1.heap.size (t + n)) := A5.out.later G7
  have C7 : Hid (BigAt w7 p5 2147483647) := C5.out.later G7
  have T7 : Hid (TwoAt w7 w5.heap.size w6.heap.size) := hT7
  have l7 : w1.heap.size < w7.heap.size := A7.out.1
  clear hB7 hT7 F6 Q G6 G7 K5 A5 C5
  go_wp2_with fail
  have G8 := (Below.refl w7.heap.size w7).alloc (Nat.le_refl _) (.cells #[.bool false, .slice none 0 0] 81)
  obtain ⟨b7, c7, q1, q2, q3, q4, q5, q6⟩ := (C7.out.later G8).one (by omega) (by omega)
  refine (subC w7.heap.size p5 w5.heap.size b7 c7 w6.heap.size _ (by exact fresh_alloc w7) (by exact q5) q4 (by exact q2) (by exact q3) (by exact q6) (by exact T7.out.later G8)).mono ?_
  rintro e w8 ⟨rfl, hB8, hA8⟩
  have K8 : Hid (Keeps w w8 t) := K7.out.later (G8.trans hB8) K7.out.2.1
  have A8 : Hid (BigAt w8 w1.heap.size (t + n)) := A7.out.later (G8.trans hB8)
  have C8 : Hid (BigAt w8 w7.heap.size (2147483647 - 18446744073709551616)) := hA8
  have hne : w1.heap.size ≠ w7.heap.size := by omega
  clear hB8 hA8 G8 q1 q2 q3 q4 q5 q6 K7 A7 C7 T7
  go_wp2_with fail
  refine (intCmp w1.heap.size w7.heap.size (t + n) (2147483647 - 18446744073709551616) _ (by exact A8.out) (by exact C8.out) hne (by omega) (by omega)).mono ?_
  rintro e w9 ⟨rfl, m, rfl⟩
  have hc := K8.out.2.2
  generalize hsg : sgn3 (t + n) (2147483647 - 18446744073709551616) = sg at *
  have hs : decide (0 < sg) = r := by
    rw [hrr, ← hsg]; unfold sgn3
    by_cases h : 2147483647 - 18446744073709551616 < t + n
    · rw [if_neg (by omega), if_neg (by omega)]; simp only [h]; rfl
    · by_cases h' : t + n = 2147483647 - 18446744073709551616
      · rw [if_neg (by omega), if_pos h']; simp only [h]; rfl
      · rw [if_pos (by omega)]; simp only [h]; rfl
  have HB : Hid (Below w.heap.size w w8) := K8.out.1
  clear hrr K8 A8 C8 K1 hsg
  rcases hr with ⟨rfl, ad, rfl⟩ | ⟨rfl, rfl⟩
  · have hs' : 0 < sg := of_decide_eq_true hs
    clear hs
    go_wp2
    go_ret
    exact ⟨rfl, below_drewN HB.out _⟩
  · have hs' : ¬ 0 < sg := of_decide_eq_false hs
    clear hs
    go_wp2
    go_ret
    exact ⟨rfl, below_drewN HB.out _⟩
end Go.Proofs.YbulkedxcFmt
