/-
  LawS6515CWhole: the walk of the law.
-/
import Derived.Test.YbulkedxcFmtRoom
import Derived.Test.YbulkedxcFmtInt3
namespace Go.Proofs.YbulkedxcFmt
open Go.RowKit Go.Extern.Stop Go.Stop Go.Extern

/-- the cells of a Store that is all zero -/
theorem zero73 : ∃ cs : Array Value, cs.size = 132 ∧ ∀ w : World, (zeroValue 73).run Ybaf.prog w = .ok (.agg cs) w :=
  ⟨(match Ybaf.t73.zero with | some (.agg cs) => cs | _ => #[]), by kernel_rfl, fun w => by kernel_rfl⟩

/-- what stays of the start: the old blocks, and the Store's field -/
def Keeps (w wi : World) (t : Int) : Prop := Below w.heap.size w wi ∧ w.heap.size < wi.heap.size ∧ wi.cell? ⟨w.heap.size, 108, none⟩ = some (.int .i64 t)

theorem Keeps.later {w wi wj : World} {t : Int} {B : Nat} (h : Keeps w wi t) (hb : Below B wi wj) (hB : w.heap.size < B) : Keeps w wj t := by
  obtain ⟨h1, h2, h3⟩ := h
  have := hb.size
  exact ⟨h1.trans (hb.mono (Nat.le_of_lt hB)), by omega, (hb.cell (p := ⟨w.heap.size, 108, none⟩) hB).trans h3⟩

theorem fresh_alloc (w : World) : Fresh (w.alloc (.cells #[.bool false, .slice none 0 0] 81)) w.heap.size := (MapKept.heap_alloc w _).1

theorem sz_alloc (w : World) (o : Obj) : (w.alloc o).heap.size = w.heap.size + 1 := by simp

/-- err != nil -/
def Refused (err : Value) (r : Bool) : Prop := (r = true ∧ ∃ a, err = .iface 106 (.pointer (some a))) ∨ (r = false ∧ err = .nilIface)

set_option maxRecDepth 100000 in
set_option maxHeartbeats 1600000 in
/-- the law behind room's answer: no wrap -/
theorem law_plain (t n : Int) (w : World) (r : Bool) (err : Value) (hr : Refused err r) (hrr : r = decide (2147483647 < t + n)) (t1 : -9223372036854775808 ≤ t) (t2 : t ≤ 9223372036854775807) (n0 : -9223372036854775808 ≤ n) (n1 : -9223372034707292160 ≤ n) (n2 : n ≤ 9223372036854775807)
    (hroom : ∀ W : World, W.tape = w.tape → W.heap.size = w.heap.size + 1 → W.cell? ⟨w.heap.size, 108, none⟩ = some (.int .i64 t) → Calls Ybaf.prog 4 #[.pointer (some ⟨w.heap.size, 0, none⟩), .int .i64 n] W fun e w' => e = .returned err ∧ Below W.heap.size W w') :
    Calls Ybaf.prog 3 #[.int .i64 t, .int .i64 n] w fun e w' => e = .returned (.bool true) ∧ Below w.heap.size w w' := by
  obtain ⟨zs, hsz, hz73⟩ := zero73
  have HM : Hid (∀ W : World, W.tape = w.tape → W.heap.size = w.heap.size + 1 → W.cell? ⟨w.heap.size, 108, none⟩ = some (.int .i64 t) → Calls Ybaf.prog 4 #[.pointer (some ⟨w.heap.size, 0, none⟩), .int .i64 n] W fun e w' => e = .returned err ∧ Below W.heap.size W w') := hroom
  clear hroom
  have K0 : Hid (Keeps w (w.alloc (.cells (zs.setIfInBounds 108 (.int .i64 t)) 73)) t) := ⟨(Below.refl _ _).alloc (Nat.le_refl _) _, by simp, by simp [go_sem, hsz]⟩
  go_enter Ybaf.func3, Ybaf.ntmps3
  go_wp2_with fail
  refine (HM.out _ (by exact rfl) (by exact sz_alloc _ _) (by exact K0.out.2.2)).mono ?_
  rintro e w1 ⟨rfl, hB1⟩
  have K1 : Hid (Keeps w w1 t) := K0.out.later hB1 K0.out.2.1
  clear hB1 K0 HM
  go_wp2_with fail
  refine (newInt t _ t1 t2).mono ?_
  rintro e w2 ⟨p2, rfl, hp2, hA2, hB2⟩
  rw [sz_alloc] at hp2
  have F2 : Hid (Fresh w2 w1.heap.size) := (fresh_alloc w1).later hB2
  have K2 : Hid (Keeps w w2 t) := (K1.out.later ((Below.refl w1.heap.size w1).alloc (Nat.le_refl _) _) K1.out.2.1).later hB2 (by rw [sz_alloc]; have := K1.out.2.1; omega)
  have A2 : Hid (BigAt w2 p2 t) := hA2
  clear hB2 hA2
  go_wp2_with fail
  refine (newInt n _ n0 n2).mono ?_
  rintro e w3 ⟨p3, rfl, hp3, hA3, hB3⟩
  have F3 : Hid (Fresh w3 w1.heap.size) := F2.out.later hB3
  have K3 : Hid (Keeps w w3 t) := K2.out.later hB3 K2.out.2.1
  have A3 : Hid (BigAt w3 p2 t) := A2.out.later hB3
  have C3 : Hid (BigAt w3 p3 n) := hA3
  clear hB3 hA3 F2 K2 A2
  go_wp2_with fail
  refine (intAdd w1.heap.size p2 p3 t n _ (by exact F3.out) (by exact A3.out) (by exact C3.out) t1 t2 n0 n2).mono ?_
  rintro e w4 ⟨rfl, hB4, hA4⟩
  have K4 : Hid (Keeps w w4 t) := K3.out.later hB4 K1.out.2.1
  have A4 : Hid (BigAt w4 w1.heap.size (t + n)) := hA4
  clear hB4 hA4 A3 C3 F3 K3
  go_wp2_with fail
  refine (newInt 2147483647 _ (by omega) (by omega)).mono ?_
  rintro e w5 ⟨p5, rfl, hp5, hA5, hB5⟩
  have K5 : Hid (Keeps w w5 t) := K4.out.later hB5 K4.out.2.1
  have A5 : Hid (BigAt w5 w1.heap.size (t + n)) := A4.out.later hB5
  have C5 : Hid (BigAt w5 p5 2147483647) := hA5
  have hne : w1.heap.size ≠ p5 := by have := A4.out.1; omega
  clear hB5 hA5 A4 K4
  go_wp2_with fail
  refine (intCmp w1.heap.size p5 (t + n) 2147483647 _ (by exact A5.out) (by exact C5.out) hne (by omega) (by omega)).mono ?_
  rintro e w6 ⟨rfl, m, rfl⟩
  have hc := K5.out.2.2
  have hs : decide (0 < sgn3 (t + n) 2147483647) = r := by
    rw [hrr]; unfold sgn3
    by_cases h : 2147483647 < t + n
    · rw [if_neg (by omega), if_neg (by omega)]; simp [h]
    · by_cases h' : t + n = 2147483647
      · rw [if_neg (by omega), if_pos h']; simp [h]
      · rw [if_pos (by omega)]; simp [h]
  have HB : Hid (Below w.heap.size w w5) := K5.out.1
  clear hrr K5 A5 C5 K1
  rcases hr with ⟨rfl, ad, rfl⟩ | ⟨rfl, rfl⟩
  · have hs' : 0 < sgn3 (t + n) 2147483647 := of_decide_eq_true hs
    clear hs
    go_wp2
    go_ret
    exact ⟨rfl, below_drewN HB.out _⟩
  · have hs' : ¬ 0 < sgn3 (t + n) 2147483647 := of_decide_eq_false hs
    clear hs
    go_wp2
    go_ret
    exact ⟨rfl, below_drewN HB.out _⟩
end Go.Proofs.YbulkedxcFmt
