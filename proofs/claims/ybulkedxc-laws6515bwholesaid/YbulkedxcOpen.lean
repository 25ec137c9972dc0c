/-
  LawS6515BWhole: the arguments, opened.
-/
import Derived.Test.YbulkedxcMain
import Derived.WalkKit
import Derived.ProofKit
import Derived.OpenShut
import Derived.Deep.Slices
namespace Go.Proofs.Ybulkedxc
open Go.RowKit
attribute [local simp] setO_size setT_same
set_option linter.unusedSimpArgs false
set_option linter.unusedVariables false
set_option linter.unnecessarySimpa false

theorem cells2 : Yba.prog.cellsOf 2 = 1 := by kernel_rfl
theorem cells3 : Yba.prog.cellsOf 3 = 1 := by kernel_rfl
theorem cells4 : Yba.prog.cellsOf 4 = 1 := by kernel_rfl
theorem cells5 : Yba.prog.cellsOf 5 = 1 := by kernel_rfl
theorem cells9 : Yba.prog.cellsOf 9 = 1 := by kernel_rfl
theorem cells22 : Yba.prog.cellsOf 22 = 1 := by kernel_rfl
theorem cells27 : Yba.prog.cellsOf 27 = 7 := by kernel_rfl
theorem cells119 : Yba.prog.cellsOf 119 = 3 := by kernel_rfl
theorem cells24 : Yba.prog.cellsOf 24 = 7 := by kernel_rfl
theorem cells30 : Yba.prog.cellsOf 30 = 8 := by kernel_rfl
theorem cells31 : Yba.prog.cellsOf 31 = 4 := by kernel_rfl
theorem list3 {l : List Value} (h : l.length = 3) : ∃ v0 v1 v2, l = [v0, v1, v2] :=
  match l, h with
  | [v0, v1, v2], _ => ⟨v0, v1, v2, rfl⟩
theorem list4 {l : List Value} (h : l.length = 4) : ∃ v0 v1 v2 v3, l = [v0, v1, v2, v3] :=
  match l, h with
  | [v0, v1, v2, v3], _ => ⟨v0, v1, v2, v3, rfl⟩
theorem list7 {l : List Value} (h : l.length = 7) : ∃ v0 v1 v2 v3 v4 v5 v6, l = [v0, v1, v2, v3, v4, v5, v6] :=
  match l, h with
  | [v0, v1, v2, v3, v4, v5, v6], _ => ⟨v0, v1, v2, v3, v4, v5, v6, rfl⟩
theorem list8 {l : List Value} (h : l.length = 8) : ∃ v0 v1 v2 v3 v4 v5 v6 v7, l = [v0, v1, v2, v3, v4, v5, v6, v7] :=
  match l, h with
  | [v0, v1, v2, v3, v4, v5, v6, v7], _ => ⟨v0, v1, v2, v3, v4, v5, v6, v7, rfl⟩
section
variable {H : Type} {enc : TypeId × Value → H} {w : World} {base : Nat} {spare : Nat → Bool} {held : Bool} {fuel : Nat} {cs : List Value} {x : DataW H × List MemPlace}

theorem some_at {α : Type} {xs : List α} {n i : Nat} (h : xs.length = n) (hi : i < n) : ∃ y, xs[i]? = some y := ⟨_, List.getElem?_eq_getElem (by omega)⟩
theorem get_bool {v : Value} {y : DataW H × List MemPlace} {n : Nat} (h : DataW.trod enc Yba.prog w base spare held n 4 [v] = some y) : ∃ b, v = .bool b := by
  obtain ⟨b, e, _⟩ := DataW.trod_bool Yba.underlying4 h
  exact ⟨b, by injection e⟩
theorem get_int {v : Value} {y : DataW H × List MemPlace} {n : Nat} (h : DataW.trod enc Yba.prog w base spare held n 3 [v] = some y) : ∃ k, v = .int .i64 k ∧ (-9223372036854775808 ≤ k ∧ k < 9223372036854775808) := by
  obtain ⟨k, e, _, hw⟩ := DataW.trod_int Yba.underlying3 h
  refine ⟨k, by injection e, ?_⟩
  simp [Lit.wf, IntKind.min, IntKind.max, IntKind.signed, IntKind.bits] at hw
  omega
theorem get_int2 {v : Value} {y : DataW H × List MemPlace} {n : Nat} (h : DataW.trod enc Yba.prog w base spare held n 2 [v] = some y) : ∃ k, v = .int .i64 k := by
  obtain ⟨k, e, _, hw⟩ := DataW.trod_int Yba.underlying2 h
  exact ⟨k, by injection e⟩
theorem get_u8 {v : Value} {y : DataW H × List MemPlace} {n : Nat} (h : DataW.trod enc Yba.prog w base spare held n 5 [v] = some y) : ∃ k : Nat, v = .int .u8 k ∧ k < 256 := by
  obtain ⟨k, e, _, hw⟩ := DataW.trod_int Yba.underlying5 h
  simp [Lit.wf, IntKind.min, IntKind.max, IntKind.signed, IntKind.bits] at hw
  refine ⟨k.toNat, ?_, by omega⟩
  have : v = .int .u8 k := by injection e
  rw [this]
  congr 1
  omega
theorem get_string {v : Value} {y : DataW H × List MemPlace} {n : Nat} (h : DataW.trod enc Yba.prog w base spare held n 9 [v] = some y) : ∃ s, v = .string s := by
  obtain ⟨s, e, _⟩ := DataW.trod_string Yba.underlying9 h
  exact ⟨s, by injection e⟩

theorem open27 (h : DataW.trod enc Yba.prog w base spare held fuel 27 cs = some x) : ∃ s : Spec, cs = (spA s).toList ∧ s.rd < 256 ∧ s.wr < 256 := by
  obtain ⟨xs, n, rfl, rfl, hl, hxl, hf⟩ := DataW.trod_struct Yba.underlying27 h
  rw [cells27] at hl
  obtain ⟨v0, v1, v2, v3, v4, v5, v6, rfl⟩ := list7 hl
  have hxl : xs.length = 7 := hxl
  have f0 : DataW.trod enc Yba.prog w base spare held n 4 (List.take (Yba.prog.cellsOf 4) (List.drop 0 [v0, v1, v2, v3, v4, v5, v6])) = xs[0]? := hf 0 _ rfl
  have f1 : DataW.trod enc Yba.prog w base spare held n 4 (List.take (Yba.prog.cellsOf 4) (List.drop 1 [v0, v1, v2, v3, v4, v5, v6])) = xs[1]? := hf 1 _ rfl
  have f2 : DataW.trod enc Yba.prog w base spare held n 4 (List.take (Yba.prog.cellsOf 4) (List.drop 2 [v0, v1, v2, v3, v4, v5, v6])) = xs[2]? := hf 2 _ rfl
  have f3 : DataW.trod enc Yba.prog w base spare held n 4 (List.take (Yba.prog.cellsOf 4) (List.drop 3 [v0, v1, v2, v3, v4, v5, v6])) = xs[3]? := hf 3 _ rfl
  have f4 : DataW.trod enc Yba.prog w base spare held n 4 (List.take (Yba.prog.cellsOf 4) (List.drop 4 [v0, v1, v2, v3, v4, v5, v6])) = xs[4]? := hf 4 _ rfl
  have f5 : DataW.trod enc Yba.prog w base spare held n 5 (List.take (Yba.prog.cellsOf 5) (List.drop 5 [v0, v1, v2, v3, v4, v5, v6])) = xs[5]? := hf 5 _ rfl
  have f6 : DataW.trod enc Yba.prog w base spare held n 5 (List.take (Yba.prog.cellsOf 5) (List.drop 6 [v0, v1, v2, v3, v4, v5, v6])) = xs[6]? := hf 6 _ rfl
  rw [cells4] at f0 f1 f2 f3 f4
  rw [cells5] at f5 f6
  obtain ⟨y0, h0⟩ := some_at (i := 0) hxl (by omega)
  obtain ⟨y1, h1⟩ := some_at (i := 1) hxl (by omega)
  obtain ⟨y2, h2⟩ := some_at (i := 2) hxl (by omega)
  obtain ⟨y3, h3⟩ := some_at (i := 3) hxl (by omega)
  obtain ⟨y4, h4⟩ := some_at (i := 4) hxl (by omega)
  obtain ⟨y5, h5⟩ := some_at (i := 5) hxl (by omega)
  obtain ⟨y6, h6⟩ := some_at (i := 6) hxl (by omega)
  obtain ⟨b0, rfl⟩ := get_bool (f0.trans h0)
  obtain ⟨b1, rfl⟩ := get_bool (f1.trans h1)
  obtain ⟨b2, rfl⟩ := get_bool (f2.trans h2)
  obtain ⟨b3, rfl⟩ := get_bool (f3.trans h3)
  obtain ⟨b4, rfl⟩ := get_bool (f4.trans h4)
  obtain ⟨b5, rfl, l5⟩ := get_u8 (f5.trans h5)
  obtain ⟨b6, rfl, l6⟩ := get_u8 (f6.trans h6)
  exact ⟨⟨b0, b1, b2, b3, b4, b5, b6⟩, rfl, l5, l6⟩
theorem open119 (h : DataW.trod enc Yba.prog w base spare held fuel 119 cs = some x) : ∃ p it vl, cs = [.bool p, .string it, .int .i64 vl] := by
  obtain ⟨xs, n, rfl, rfl, hl, hxl, hf⟩ := DataW.trod_struct Yba.underlying119 h
  rw [cells119] at hl
  obtain ⟨v0, v1, v2, rfl⟩ := list3 hl
  have hxl : xs.length = 3 := hxl
  have f0 : DataW.trod enc Yba.prog w base spare held n 4 (List.take (Yba.prog.cellsOf 4) (List.drop 0 [v0, v1, v2])) = xs[0]? := hf 0 _ rfl
  have f1 : DataW.trod enc Yba.prog w base spare held n 9 (List.take (Yba.prog.cellsOf 9) (List.drop 1 [v0, v1, v2])) = xs[1]? := hf 1 _ rfl
  have f2 : DataW.trod enc Yba.prog w base spare held n 2 (List.take (Yba.prog.cellsOf 2) (List.drop 2 [v0, v1, v2])) = xs[2]? := hf 2 _ rfl
  rw [cells4] at f0
  rw [cells9] at f1
  rw [cells2] at f2
  obtain ⟨y0, h0⟩ := some_at (i := 0) hxl (by omega)
  obtain ⟨y1, h1⟩ := some_at (i := 1) hxl (by omega)
  obtain ⟨y2, h2⟩ := some_at (i := 2) hxl (by omega)
  obtain ⟨b0, rfl⟩ := get_bool (f0.trans h0)
  obtain ⟨b1, rfl⟩ := get_string (f1.trans h1)
  obtain ⟨b2, rfl⟩ := get_int2 (f2.trans h2)
  exact ⟨b0, b1, b2, rfl⟩
theorem open30 (h : DataW.trod enc Yba.prog w base spare held fuel 30 cs = some x) : ∃ g : Nat → Int, cs = [.int .i64 (g 0), .int .i64 (g 1), .int .i64 (g 2), .int .i64 (g 3), .int .i64 (g 4), .int .i64 (g 5), .int .i64 (g 6), .int .i64 (g 7)] ∧ ∀ i, i < 8 → -9223372036854775808 ≤ g i ∧ g i < 9223372036854775808 := by
  obtain ⟨xs, n, rfl, rfl, hl, hxl, hf⟩ := DataW.trod_struct Yba.underlying30 h
  rw [cells30] at hl
  obtain ⟨v0, v1, v2, v3, v4, v5, v6, v7, rfl⟩ := list8 hl
  have hxl : xs.length = 8 := hxl
  have f0 : DataW.trod enc Yba.prog w base spare held n 3 (List.take (Yba.prog.cellsOf 3) (List.drop 0 [v0, v1, v2, v3, v4, v5, v6, v7])) = xs[0]? := hf 0 _ rfl
  have f1 : DataW.trod enc Yba.prog w base spare held n 3 (List.take (Yba.prog.cellsOf 3) (List.drop 1 [v0, v1, v2, v3, v4, v5, v6, v7])) = xs[1]? := hf 1 _ rfl
  have f2 : DataW.trod enc Yba.prog w base spare held n 3 (List.take (Yba.prog.cellsOf 3) (List.drop 2 [v0, v1, v2, v3, v4, v5, v6, v7])) = xs[2]? := hf 2 _ rfl
  have f3 : DataW.trod enc Yba.prog w base spare held n 3 (List.take (Yba.prog.cellsOf 3) (List.drop 3 [v0, v1, v2, v3, v4, v5, v6, v7])) = xs[3]? := hf 3 _ rfl
  have f4 : DataW.trod enc Yba.prog w base spare held n 3 (List.take (Yba.prog.cellsOf 3) (List.drop 4 [v0, v1, v2, v3, v4, v5, v6, v7])) = xs[4]? := hf 4 _ rfl
  have f5 : DataW.trod enc Yba.prog w base spare held n 3 (List.take (Yba.prog.cellsOf 3) (List.drop 5 [v0, v1, v2, v3, v4, v5, v6, v7])) = xs[5]? := hf 5 _ rfl
  have f6 : DataW.trod enc Yba.prog w base spare held n 3 (List.take (Yba.prog.cellsOf 3) (List.drop 6 [v0, v1, v2, v3, v4, v5, v6, v7])) = xs[6]? := hf 6 _ rfl
  have f7 : DataW.trod enc Yba.prog w base spare held n 3 (List.take (Yba.prog.cellsOf 3) (List.drop 7 [v0, v1, v2, v3, v4, v5, v6, v7])) = xs[7]? := hf 7 _ rfl
  rw [cells3] at f0 f1 f2 f3 f4 f5 f6 f7
  obtain ⟨y0, h0⟩ := some_at (i := 0) hxl (by omega)
  obtain ⟨y1, h1⟩ := some_at (i := 1) hxl (by omega)
  obtain ⟨y2, h2⟩ := some_at (i := 2) hxl (by omega)
  obtain ⟨y3, h3⟩ := some_at (i := 3) hxl (by omega)
  obtain ⟨y4, h4⟩ := some_at (i := 4) hxl (by omega)
  obtain ⟨y5, h5⟩ := some_at (i := 5) hxl (by omega)
  obtain ⟨y6, h6⟩ := some_at (i := 6) hxl (by omega)
  obtain ⟨y7, h7⟩ := some_at (i := 7) hxl (by omega)
  obtain ⟨b0, rfl, l0⟩ := get_int (f0.trans h0)
  obtain ⟨b1, rfl, l1⟩ := get_int (f1.trans h1)
  obtain ⟨b2, rfl, l2⟩ := get_int (f2.trans h2)
  obtain ⟨b3, rfl, l3⟩ := get_int (f3.trans h3)
  obtain ⟨b4, rfl, l4⟩ := get_int (f4.trans h4)
  obtain ⟨b5, rfl, l5⟩ := get_int (f5.trans h5)
  obtain ⟨b6, rfl, l6⟩ := get_int (f6.trans h6)
  obtain ⟨b7, rfl, l7⟩ := get_int (f7.trans h7)
  refine ⟨fun i => match i with | 0 => b0 | 1 => b1 | 2 => b2 | 3 => b3 | 4 => b4 | 5 => b5 | 6 => b6 | _ => b7, rfl, fun i hi => ?_⟩
  match i, hi with
  | 0, _ => exact l0
  | 1, _ => exact l1
  | 2, _ => exact l2
  | 3, _ => exact l3
  | 4, _ => exact l4
  | 5, _ => exact l5
  | 6, _ => exact l6
  | 7, _ => exact l7
theorem open31 (h : DataW.trod enc Yba.prog w base spare held fuel 31 cs = some x) : ∃ g : Nat → Int, cs = (four g).toList := by
  obtain ⟨xs, n, rfl, rfl, hl, hxl, hf⟩ := DataW.trod_array Yba.underlying31 h
  rw [cells31] at hl
  obtain ⟨v0, v1, v2, v3, rfl⟩ := list4 hl
  rw [cells3] at hf
  have f0 := hf 0 (by omega)
  have f1 := hf 1 (by omega)
  have f2 := hf 2 (by omega)
  have f3 := hf 3 (by omega)
  obtain ⟨y0, h0⟩ := some_at (i := 0) hxl (by omega)
  obtain ⟨y1, h1⟩ := some_at (i := 1) hxl (by omega)
  obtain ⟨y2, h2⟩ := some_at (i := 2) hxl (by omega)
  obtain ⟨y3, h3⟩ := some_at (i := 3) hxl (by omega)
  obtain ⟨b0, rfl, l0⟩ := get_int (f0.trans h0)
  obtain ⟨b1, rfl, l1⟩ := get_int (f1.trans h1)
  obtain ⟨b2, rfl, l2⟩ := get_int (f2.trans h2)
  obtain ⟨b3, rfl, l3⟩ := get_int (f3.trans h3)
  exact ⟨fun i => match i with | 0 => b0 | 1 => b1 | 2 => b2 | _ => b3, rfl⟩
theorem open24 (h : DataW.trod enc Yba.prog w base spare held fuel 24 cs = some x) : ∃ step txn : Int, ∃ kind dec : Nat, ∃ item expr v6 n y, cs = [.int .i64 step, .int .u8 kind, .int .i64 txn, .string item, .string expr, .int .u8 dec, v6] ∧ DataW.trod enc Yba.prog w base spare held n 22 [v6] = some y := by
  obtain ⟨xs, n, rfl, rfl, hl, hxl, hf⟩ := DataW.trod_struct Yba.underlying24 h
  rw [cells24] at hl
  obtain ⟨v0, v1, v2, v3, v4, v5, v6, rfl⟩ := list7 hl
  have hxl : xs.length = 7 := hxl
  have f0 : DataW.trod enc Yba.prog w base spare held n 3 (List.take (Yba.prog.cellsOf 3) (List.drop 0 [v0, v1, v2, v3, v4, v5, v6])) = xs[0]? := hf 0 _ rfl
  have f1 : DataW.trod enc Yba.prog w base spare held n 5 (List.take (Yba.prog.cellsOf 5) (List.drop 1 [v0, v1, v2, v3, v4, v5, v6])) = xs[1]? := hf 1 _ rfl
  have f2 : DataW.trod enc Yba.prog w base spare held n 3 (List.take (Yba.prog.cellsOf 3) (List.drop 2 [v0, v1, v2, v3, v4, v5, v6])) = xs[2]? := hf 2 _ rfl
  have f3 : DataW.trod enc Yba.prog w base spare held n 9 (List.take (Yba.prog.cellsOf 9) (List.drop 3 [v0, v1, v2, v3, v4, v5, v6])) = xs[3]? := hf 3 _ rfl
  have f4 : DataW.trod enc Yba.prog w base spare held n 9 (List.take (Yba.prog.cellsOf 9) (List.drop 4 [v0, v1, v2, v3, v4, v5, v6])) = xs[4]? := hf 4 _ rfl
  have f5 : DataW.trod enc Yba.prog w base spare held n 5 (List.take (Yba.prog.cellsOf 5) (List.drop 5 [v0, v1, v2, v3, v4, v5, v6])) = xs[5]? := hf 5 _ rfl
  have f6 : DataW.trod enc Yba.prog w base spare held n 22 (List.take (Yba.prog.cellsOf 22) (List.drop 6 [v0, v1, v2, v3, v4, v5, v6])) = xs[6]? := hf 6 _ rfl
  rw [cells3] at f0 f2
  rw [cells5] at f1 f5
  rw [cells9] at f3 f4
  rw [cells22] at f6
  obtain ⟨y0, h0⟩ := some_at (i := 0) hxl (by omega)
  obtain ⟨y1, h1⟩ := some_at (i := 1) hxl (by omega)
  obtain ⟨y2, h2⟩ := some_at (i := 2) hxl (by omega)
  obtain ⟨y3, h3⟩ := some_at (i := 3) hxl (by omega)
  obtain ⟨y4, h4⟩ := some_at (i := 4) hxl (by omega)
  obtain ⟨y5, h5⟩ := some_at (i := 5) hxl (by omega)
  obtain ⟨y6, h6⟩ := some_at (i := 6) hxl (by omega)
  obtain ⟨b0, rfl, _⟩ := get_int (f0.trans h0)
  obtain ⟨b1, rfl, _⟩ := get_u8 (f1.trans h1)
  obtain ⟨b2, rfl, _⟩ := get_int (f2.trans h2)
  obtain ⟨b3, rfl⟩ := get_string (f3.trans h3)
  obtain ⟨b4, rfl⟩ := get_string (f4.trans h4)
  obtain ⟨b5, rfl, _⟩ := get_u8 (f5.trans h5)
  exact ⟨b0, b2, b1, b5, b3, b4, v6, n, y6, rfl, f6.trans h6⟩
end
end Go.Proofs.Ybulkedxc
