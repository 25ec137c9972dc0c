/-
  LawS6519CWhole: how the byteStringReplacer lies, and its Replace.
-/
import Derived.Test.YbulkedzgModel
import Derived.Lib.Bytealg
import Derived.Laws.IdiomCopy
import Derived.Deep.QuietTactic
import Derived.BigQuiet
namespace Go.Proofs.Ybulkedzg
open Go.RowKit

/-- byte i is replaced by a backslash and x -/
def Two (W : World) (B R i : Nat) (x : Int) : Prop :=
  ∃ b c, B ≤ b ∧ b < W.heap.size ∧ W.cell? ⟨R, i, none⟩ = some (.slice (some ⟨b, 0, none⟩) 2 c) ∧ W.cell? ⟨b, 0, none⟩ = some (.int .u8 92) ∧ W.cell? ⟨b, 1, none⟩ = some (.int .u8 x)
/-- the replacer as build leaves it -/
structure RepAt (W : World) (B R : Nat) : Prop where
  low : B ≤ R
  lt : R < W.heap.size
  tab : ∃ t c, B ≤ t ∧ t < W.heap.size ∧ W.cell? ⟨R, 256, none⟩ = some (.slice (some ⟨t, 0, none⟩) 3 c) ∧ W.cell? ⟨t, 0, none⟩ = some (.string ⟨#[10]⟩) ∧ W.cell? ⟨t, 1, none⟩ = some (.string ⟨#[34]⟩) ∧ W.cell? ⟨t, 2, none⟩ = some (.string ⟨#[92]⟩)
  no : ∀ i : Nat, i < 256 → i ≠ 92 → i ≠ 34 → i ≠ 10 → W.cell? ⟨R, i, none⟩ = some (.slice none 0 0)
  r92 : Two W B R 92 92
  r34 : Two W B R 34 34
  r10 : Two W B R 10 110

/-- the third byte of what a special byte becomes -/
def sub3 (c : UInt8) : Int := if c = 92 then 92 else if c = 34 then 34 else 110

theorem RepAt.yes {W : World} {B R : Nat} (h : RepAt W B R) (c : UInt8) (hc : spec3 c = true) : Two W B R c.toNat (sub3 c) := by
  unfold spec3 at hc
  simp at hc
  rcases hc with (rfl | rfl) | rfl
  · exact h.r92
  · exact h.r34
  · exact h.r10
theorem RepAt.nope {W : World} {B R : Nat} (h : RepAt W B R) (c : UInt8) (hc : spec3 c = false) : W.cell? ⟨R, c.toNat, none⟩ = some (.slice none 0 0) := by
  unfold spec3 at hc
  simp at hc
  obtain ⟨⟨h1, h2⟩, h3⟩ := hc
  refine h.no _ c.toNat_lt ?_ ?_ ?_
  · intro e; exact h1 (UInt8.toNat_inj.1 e)
  · intro e; exact h2 (UInt8.toNat_inj.1 e)
  · intro e; exact h3 (UInt8.toNat_inj.1 e)
theorem rep_yes (c : UInt8) (hc : spec3 c = true) : vals (rep c) = [.int .u8 92, .int .u8 (sub3 c)] := by
  unfold spec3 at hc
  simp at hc
  rcases hc with (rfl | rfl) | rfl <;> rfl
theorem rep_no (c : UInt8) (hc : spec3 c = false) : rep c = [c] := by
  unfold spec3 at hc
  simp at hc
  exact rep_else c hc.1.1 hc.1.2 hc.2

/-- how often the byte c stands in s -/
def ctB (s : ByteArray) (c : UInt8) : Nat := s.data.toList.count c

theorem call78 (s : ByteArray) (c : UInt8) (w : World) : (callFunc 78 #[.string s, .int .u8 (c.toNat : Int)]).run Yba.prog w = .ok (.value (.int .i64 (ctB s c : Nat))) w := by
  rw [run_callFunc_extern Yba.func78 (by kernel_rfl) (by kernel_rfl) (by kernel_rfl) (e := Extern.BytealgCount.count) (by kernel_rfl), Lib.run_countString]
  simp [Result.andThen, Lib.countByte, ctB]

theorem count_any (s : ByteArray) (c : UInt8) (w : World) :
    Calls Yba.prog 76 #[.string s, .string ⟨#[c]⟩] w fun e w' => e = .returned (.int .i64 (ctB s c : Nat)) ∧ w' = w := by
  have h : ∀ w : World, (callFunc 78 #[.string s, .int .u8 (((ByteArray.mk #[c])[0]'(show 0 < 1 from by decide)).toNat : Int)]).run Yba.prog w = .ok (.value (.int .i64 (ctB s c : Nat))) w := call78 s c
  have hsz : (ByteArray.mk #[c]).size = 1 := rfl
  go_enter Yba.func76, Yba.ntmps76
  go_wp2
  go_ret
  exact ⟨rfl, rfl⟩

/-- the table's k-th byte -/
def tb (k : Nat) : UInt8 := if k = 0 then 10 else if k = 1 then 34 else 92
/-- how many of the table's first k bytes s holds -/
def cnt (s : ByteArray) : Nat → Nat
  | 0 => 0
  | k + 1 => cnt s k + ctB s (tb k)
/-- how many bytes of s are replaced -/
def tot (s : ByteArray) : Nat := s.data.toList.countP spec3
theorem tb_spec (k : Nat) : spec3 (tb k) = true := by
  unfold tb
  split
  · rfl
  · split <;> rfl
theorem sum3 (l : List UInt8) : l.count 10 + l.count 34 + l.count 92 = l.countP spec3 := by
  induction l with
  | nil => rfl
  | cons c r ih =>
    rw [List.countP_cons, ← ih, List.count_cons, List.count_cons, List.count_cons]
    by_cases h1 : c = 92
    · subst h1; simp [spec3]; omega
    · by_cases h2 : c = 34
      · subst h2; simp [spec3]; omega
      · by_cases h3 : c = 10
        · subst h3; simp [spec3]; omega
        · simp [spec3, h1, h2, h3]
theorem cnt3 (s : ByteArray) : cnt s 3 = tot s := by
  rw [tot, ← sum3]; simp [cnt, tb, ctB]
theorem cnt_le (s : ByteArray) (k : Nat) (hk : k ≤ 3) : cnt s k ≤ tot s := by
  rw [← cnt3]
  match k, hk with
  | 0, _ => simp [cnt]
  | 1, _ => simp [cnt]; omega
  | 2, _ => simp [cnt]
  | 3, _ => exact Nat.le_refl _
theorem tot_le (s : ByteArray) : tot s ≤ s.size := by
  have := List.countP_le_length (p := spec3) (l := s.data.toList)
  simpa [tot] using this

theorem RepAt.tabAt {W : World} {B R : Nat} (h : RepAt W B R) : ∃ t c, W.cell? ⟨R, 256, none⟩ = some (.slice (some ⟨t, 0, none⟩) 3 c) ∧ ∀ k, k < 3 → W.cell? ⟨t, k, none⟩ = some (.string ⟨#[tb k]⟩) := by
  obtain ⟨t, c, _, _, h1, h2, h3, h4⟩ := h.tab
  refine ⟨t, c, h1, ?_⟩
  intro k hk
  match k, hk with
  | 0, _ => exact h2
  | 1, _ => exact h3
  | 2, _ => exact h4

theorem neq_nil (W : World) (a : Option Addr) (n c : Nat) : (binOp .neq 26 (.slice a n c) (.slice none 0 0)).run Yba.prog W = .ok (.bool (!a.isNone)) W := run_neq_slice_nil_any W 26 5 a n c 0 0 Yba.underlying26

theorem RepAt.later {W W' : World} {B R : Nat} (h : RepAt W B R) (hb : Below W.heap.size W W') : RepAt W' B R := by
  have hs := hb.size
  have two : ∀ i x, Two W B R i x → Two W' B R i x := by
    rintro i x ⟨b, c, h1, h2, h3, h4, h5⟩
    exact ⟨b, c, h1, by omega, (hb.cell (p := ⟨R, i, none⟩) h.lt).trans h3, (hb.cell (p := ⟨b, 0, none⟩) h2).trans h4, (hb.cell (p := ⟨b, 1, none⟩) h2).trans h5⟩
  refine ⟨h.low, by have := h.lt; omega, ?_, fun i a b c d => (hb.cell (p := ⟨R, i, none⟩) h.lt).trans (h.no i a b c d), two _ _ h.r92, two _ _ h.r34, two _ _ h.r10⟩
  obtain ⟨t, c, h1, h2, h3, h4, h5, h6⟩ := h.tab
  exact ⟨t, c, h1, by omega, (hb.cell (p := ⟨R, 256, none⟩) h.lt).trans h3, (hb.cell (p := ⟨t, 0, none⟩) h2).trans h4, (hb.cell (p := ⟨t, 1, none⟩) h2).trans h5, (hb.cell (p := ⟨t, 2, none⟩) h2).trans h6⟩

theorem size5 : (Yba.prog.info? 5).map (·.size) = some 1 := by kernel_rfl

/-- make([]byte, n) -/
theorem make_n (n : Nat) (hn : n ≤ 4194304) (w : World) : ∃ cs : Array Value, cs.size = n ∧ (Instr.makeSlice 26 (.int .i64 n) (.int .i64 n)).run Yba.prog w = .ok (.slice (some ⟨w.heap.size, 0, none⟩) n n) (w.alloc (.cells cs 5)) := by
  have h := run_make (P := Yba.prog) w 26 5 Yba.t5 (.int .u8 0) Yba.underlying26 (by kernel_rfl) (by kernel_rfl) .i64 .i64 n n (by omega) (by omega) (by
    have : Yba.t5.bytes = 1 := by kernel_rfl
    rw [this]; omega) (by omega)
  refine ⟨_, ?_, by simpa using h⟩
  rw [size_madeCells]
  have : Yba.t5.size = 1 := by kernel_rfl
  rw [this]; simp

/-- the buffer: N cells that may be written; the first ones hold l -/
structure BufAt (W : World) (g N : Nat) (l : List UInt8) : Prop where
  some : ∀ m, m < N → (W.cell? ⟨g, m, none⟩).isSome = true
  free : ∀ m, m < N → W.frozen? ⟨g, m, none⟩ = false
  holds : ∀ m u, (vals l)[m]? = Option.some u → W.cell? ⟨g, m, none⟩ = Option.some u

theorem BufAt.put {W : World} {g N : Nat} {l : List UInt8} (h : BufAt W g N l) (r : List UInt8) (hfit : l.length + r.length ≤ N) : BufAt (W.setCells g l.length (vals r)) g N (l ++ r) := by
  have hv : (vals r).length = r.length := vals_len r
  have hin := World.cell?_setCells_in g (vals r) l.length W (by intro j hj; rw [hv] at hj; exact h.some _ (by omega))
  have hout := World.cell?_setCells_out g (vals r) l.length W
  refine ⟨?_, ?_, ?_⟩
  · intro m hm
    rcases Nat.lt_or_ge m l.length with h1 | h1
    · rw [hout ⟨g, m, none⟩ (fun _ _ => Or.inl h1)]; exact h.some m hm
    · rcases Nat.lt_or_ge m (l.length + r.length) with h2 | h2
      · have := hin (m - l.length) (by rw [hv]; omega)
        rw [show l.length + (m - l.length) = m from by omega] at this
        rw [this]; rfl
      · rw [hout ⟨g, m, none⟩ (fun _ _ => Or.inr (by rw [hv]; exact h2))]; exact h.some m hm
  · intro m hm; rw [World.frozen?_setCells]; exact h.free m hm
  · intro m u hu
    rw [vals_append] at hu
    rcases Nat.lt_or_ge m l.length with h1 | h1
    · rw [List.getElem?_append_left (by rw [vals_len]; exact h1)] at hu
      rw [hout ⟨g, m, none⟩ (fun _ _ => Or.inl h1)]; exact h.holds m u hu
    · rw [List.getElem?_append_right (by rw [vals_len]; exact h1), vals_len] at hu
      have h2 : m - l.length < (vals r).length := by
        rcases Nat.lt_or_ge (m - l.length) (vals r).length with h | h
        · exact h
        · rw [List.getElem?_eq_none h] at hu; cases hu
      have := hin (m - l.length) h2
      rw [show l.length + (m - l.length) = m from by omega] at this
      rw [this]
      rw [List.getElem?_eq_getElem h2] at hu
      exact hu

theorem below_setCells {B b : Nat} {w0 : World} : ∀ (vs : List Value) (o : Nat) (w : World), Below B w0 w → B ≤ b → Below B w0 (w.setCells b o vs)
  | [], _, _, h, _ => h
  | v :: r, o, w, h, hb => below_setCells r (o + 1) (w.setCell ⟨b, o, none⟩ v) (h.setCell (p := ⟨b, o, none⟩) hb v) hb
theorem size_setCells (b : Nat) : ∀ (vs : List Value) (o : Nat) (w : World), (w.setCells b o vs).heap.size = w.heap.size
  | [], _, _ => rfl
  | v :: r, o, w => by
    show ((w.setCell ⟨b, o, none⟩ v).setCells b (o + 1) r).heap.size = _
    rw [size_setCells b r]; simp [World.setCell]

theorem buf_new (w : World) (cs : Array Value) (N : Nat) (h : cs.size = N) : BufAt (w.alloc (.cells cs 5)) w.heap.size N [] := by
  refine ⟨?_, fun m _ => World.frozen?_alloc_at _ _ _ _ rfl, fun m u hu => by simp [vals] at hu⟩
  intro m hm
  rw [World.cell?_alloc_at _ _ _ _ rfl]
  simp [h, hm]

/-- copy(buf[j:], replacement) -/
theorem copy_two (W : World) (g N j b c : Nat) (x : Int) (l : List UInt8) (hB : BufAt W g N l) (hfit : j + 2 ≤ N) (h0 : W.cell? ⟨b, 0, none⟩ = some (.int .u8 92)) (h1 : W.cell? ⟨b, 1, none⟩ = some (.int .u8 x)) (ty : TypeId) :
    (Builtin.copy_ #[26, 26] ty #[.slice (some ⟨g, j, none⟩) (N - j) (N - j), .slice (some ⟨b, 0, none⟩) 2 c]).run Yba.prog W = .ok (goInt 2) (W.setCells g j [.int .u8 92, .int .u8 x]) := by
  have := run_copy_cells (P := Yba.prog) W 26 26 ty 5 g j (N - j) (N - j) ⟨b, 0, none⟩ 2 c [.int .u8 92, .int .u8 x] Yba.underlying26 size5 (by show 2 = min 2 (N - j); omega)
    (by
      intro i v hi
      match i, hi with
      | 0, hi => simp at hi; subst hi; exact h0
      | 1, hi => simp at hi; subst hi; simpa [Addr.add] using h1)
    (by intro i hi; exact hB.some _ (by simp at hi; omega)) (by intro i hi; exact hB.free _ (by simp at hi; omega)) (by simp [Value.oneCell'])
  simpa using this
end Go.Proofs.Ybulkedzg
