/-
  LawS6515BWhole: the arguments as the law's input; the statement.
-/
import Derived.Test.YbulkedxcOpen
import Derived.ShutString
namespace Go.Proofs.Ybulkedxc
open Go.RowKit
attribute [local simp] setO_size setT_same
set_option linter.unusedSimpArgs false
set_option linter.unusedVariables false
set_option linter.unnecessarySimpa false

theorem has_lt {w : World} {r : Reach} {base : Nat} {a : Addr} {e : TypeId} {n : Nat} (h : w.has Yba.prog r base a e n) : a.block < w.heap.size := by
  obtain ⟨_, _, row, cells, hs, _⟩ := h
  unfold World.shape? at hs
  rcases Nat.lt_or_ge a.block w.heap.size with h' | h'
  · exact h'
  · simp [Array.getElem?_eq_none h'] at hs
theorem cell_lt {w : World} {p : Addr} {v : Value} (h : w.cell? p = some v) : p.block < w.heap.size := by
  rcases Nat.lt_or_ge p.block w.heap.size with h' | h'
  · exact h'
  · simp [World.cell?, Array.getElem?_eq_none h'] at h
section
variable {H : Type} {enc : TypeId × Value → H} {w : World} {fuel : Nat} {x : DataW H × List MemPlace}

theorem open_notes {v : Value} (h : DataW.trod enc Yba.prog w 0 (fun _ => true) true fuel 22 [v] = some x) : ∃ (a : Option Addr) (n c : Nat) (np : Nat → Bool) (nit : Nat → ByteArray) (nvl : Nat → Int), v = .slice a n c ∧ (a = none → n = 0 ∧ c = 0) ∧ ∀ k, k < n → ∃ b, a = some b ∧ b.block < w.heap.size ∧ w.cell? (b.add (k * 3)) = some (.bool (np k)) ∧ w.cell? (b.add (k * 3 + 1)) = some (.string (nit k)) ∧ w.cell? (b.add (k * 3 + 2)) = some (.int .i64 (nvl k)) := by
  rcases Go.Deep.open_slice Yba.underlying22 h with ⟨h0, _⟩ | ⟨a, len, cap, m, n, Dd, Pl, h0, _, hl, _, hm, _, hx⟩
  · exact ⟨none, 0, 0, fun _ => false, fun _ => ⟨#[]⟩, fun _ => 0, by injection h0, fun _ => ⟨rfl, rfl⟩, fun k hk => absurd hk (Nat.not_lt_zero _)⟩
  · have hm : m = cap := hm
    rw [cells119] at hx
    obtain ⟨F, hF⟩ := Go.Deep.choose_lt (α := Bool × ByteArray × Int) (n := m) (p := fun i z => w.cell? (a.add (i * 3)) = some (.bool z.1) ∧ w.cell? (a.add (i * 3 + 1)) = some (.string z.2.1) ∧ w.cell? (a.add (i * 3 + 2)) = some (.int .i64 z.2.2)) (fun i hi => by
      obtain ⟨cs', h1, h2⟩ := hx i hi
      obtain ⟨p, it, vl, rfl⟩ := open119 h2
      obtain ⟨_, _, hc⟩ := World.cells?_some h1
      have c0 := hc 0 (by omega)
      have c1 := hc 1 (by omega)
      have c2 := hc 2 (by omega)
      rw [Addr.add_add] at c0 c1 c2
      exact ⟨(p, it, vl), c0, c1, c2⟩)
    refine ⟨some a, len, cap, fun i => (F i).1, fun i => (F i).2.1, fun i => (F i).2.2, by injection h0, (fun e => by cases e), fun k hk => ⟨a, rfl, ?_, (hF k (by omega)).1, (hF k (by omega)).2.1, (hF k (by omega)).2.2⟩⟩
    have := cell_lt (hF k (by omega)).1
    rwa [add_block] at this

theorem open_others {v : Value} (h : DataW.trod enc Yba.prog w 0 (fun _ => true) true fuel 28 [v] = some x) : ∃ (a : Option Addr) (n c : Nat) (so : Nat → Spec), v = .slice a n c ∧ (a = none → n = 0 ∧ c = 0) ∧ ∀ k, k < n → (so k).rd < 256 ∧ (so k).wr < 256 ∧ ∃ b, a = some b ∧ b.block < w.heap.size ∧ ∀ j u, (spA (so k))[j]? = some u → w.cell? (b.add (k * 7 + j)) = some u := by
  rcases Go.Deep.open_slice Yba.underlying28 h with ⟨h0, _⟩ | ⟨a, len, cap, m, n, Dd, Pl, h0, _, hl, _, hm, _, hx⟩
  · exact ⟨none, 0, 0, fun _ => ⟨false, false, false, false, false, 0, 0⟩, by injection h0, fun _ => ⟨rfl, rfl⟩, fun k hk => absurd hk (Nat.not_lt_zero _)⟩
  · have hm : m = cap := hm
    rw [cells27] at hx
    obtain ⟨F, hF⟩ := @Go.Deep.choose_lt Spec ⟨⟨false, false, false, false, false, 0, 0⟩⟩ m (fun i z => z.rd < 256 ∧ z.wr < 256 ∧ ∀ j u, (spA z)[j]? = some u → w.cell? (a.add (i * 7 + j)) = some u) (fun i hi => by
      obtain ⟨cs', h1, h2⟩ := hx i hi
      obtain ⟨s, rfl, r1, r2⟩ := open27 h2
      obtain ⟨_, _, hc⟩ := World.cells?_some h1
      refine ⟨s, r1, r2, fun j u hj => ?_⟩
      have hj7 : j < 7 := (Array.getElem?_eq_some_iff.1 hj).1
      have c := hc j hj7
      rw [Addr.add_add] at c
      rw [c]
      simpa using hj)
    refine ⟨some a, len, cap, F, by injection h0, (fun e => by cases e), fun k hk => ⟨(hF k (by omega)).1, (hF k (by omega)).2.1, a, rfl, ?_, (hF k (by omega)).2.2⟩⟩
    have := cell_lt ((hF k (by omega)).2.2 0 _ rfl)
    rwa [add_block] at this

theorem open_cycle {v : Value} (h : DataW.trod enc Yba.prog w 0 (fun _ => true) true fuel 25 [v] = some x) : ∃ (a : Option Addr) (n c : Nat) (xs : List Int), v = .slice a n c ∧ (a = none → n = 0 ∧ c = 0) ∧ xs.length = n ∧ ∀ k z, xs[k]? = some z → ∃ b, a = some b ∧ b.block < w.heap.size ∧ w.cell? (b.add k) = some (.int .i64 z) := by
  rcases Go.Deep.open_slice1 Yba.underlying25 cells3 h with ⟨h0, _⟩ | ⟨a, len, cap, m, n, Vv, Dd, Pl, h0, _, hl, _, hm, _, hx⟩
  · exact ⟨none, 0, 0, [], by injection h0, fun _ => ⟨rfl, rfl⟩, rfl, fun k z hk => by cases hk⟩
  · have hm : m = cap := hm
    obtain ⟨F, hF⟩ := Go.Deep.choose_lt (α := Int) (n := m) (p := fun i z => w.cell? (a.add i) = some (.int .i64 z)) (fun i hi => by
      obtain ⟨h1, h2⟩ := hx i hi
      obtain ⟨z, hz, _⟩ := get_int h2
      exact ⟨z, by rw [h1, hz]⟩)
    refine ⟨some a, len, cap, (List.range len).map F, by injection h0, (fun e => by cases e), by simp, fun k z hk => ⟨a, rfl, ?_⟩⟩
    have hkl : k < len := by
      have := (List.getElem?_eq_some_iff.1 hk).1
      simpa using this
    rw [List.getElem?_map, List.getElem?_range hkl] at hk
    cases hk
    have hc := hF k (by omega)
    have := cell_lt hc
    rw [add_block] at this
    exact ⟨this, hc⟩
end

set_option maxRecDepth 100000 in
set_option maxHeartbeats 1600000 in
/-- what is too long is not looked at -/
theorem law_big (D : Inp) (w : World) (h : 1024 < D.on ∨ 65536 < D.nn ∨ 65536 < D.cn) :
    Calls Yba.prog 3 #[.agg D.evA, .slice D.ca D.cn D.cc, .agg (spA (D.sp 0)), .slice D.oa D.on D.oc, .agg D.bcA, .agg (four D.rd), .agg (four D.wr)] w fun e w' => e = .returned (.bool true) ∧ Old w.heap.size w w' := by
  unfold Inp.evA spA Inp.bcA four
  have fin : ∀ o1 o2 o3 o4 o5 : Obj, Old w.heap.size w (((((w.alloc o1).alloc o2).alloc o3).alloc o4).alloc o5) := fun o1 o2 o3 o4 o5 => ((((Old.refl _ _).alloc (Nat.le_refl _) _).alloc (by first | (simp; done) | (simp; omega)) _ |>.alloc (by first | (simp; done) | (simp; omega)) _).alloc (by first | (simp; done) | (simp; omega)) _).alloc (by first | (simp; done) | (simp; omega)) _
  have HF := hid fin
  clear fin
  by_cases h1 : 1024 < D.on
  · have h1' : (1024 : Int) < (D.on : Int) := by omega
    clear h
    go_enter Yba.func3, Yba.ntmps3
    go_wp2
    go_ret
    exact ⟨rfl, HF.out _ _ _ _ _⟩
  · have h1' : (D.on : Int) ≤ 1024 := by omega
    by_cases h2 : 65536 < D.nn
    · have h2' : (65536 : Int) < (D.nn : Int) := by omega
      clear h
      go_enter Yba.func3, Yba.ntmps3
      go_wp2
      go_ret
      exact ⟨rfl, HF.out _ _ _ _ _⟩
    · have h2' : (D.nn : Int) ≤ 65536 := by omega
      have h3' : (65536 : Int) < (D.cn : Int) := by omega
      clear h
      go_enter Yba.func3, Yba.ntmps3
      go_wp2
      go_ret
      exact ⟨rfl, HF.out _ _ _ _ _⟩
end Go.Proofs.Ybulkedxc
