/-
  LawS6515CWhole: how a big.Int lies in memory, and nat.add, nat.sub, nat.cmp said of it.
-/
import Derived.Test.YbulkedxcFmtNat
import Derived.Test.YbulkedxcFmtLsh
namespace Go.Proofs.YbulkedxcFmt
open Go.RowKit

/-- a slice of words that holds the number k: no word, one word, two words; the top one is not 0 -/
def NatAt (w : World) (sl : Value) (k : Int) : Prop :=
  (∃ a c, sl = .slice a 0 c ∧ k = 0) ∨
  (∃ b c, sl = .slice (some ⟨b, 0, none⟩) 1 c ∧ 1 ≤ c ∧ b < w.heap.size ∧ w.cell? ⟨b, 0, none⟩ = some (.int .u64 k) ∧ 0 < k ∧ k < 18446744073709551616) ∨
  (∃ b c x y, sl = .slice (some ⟨b, 0, none⟩) 2 c ∧ 18446744073709551616 ≤ k ∧ b < w.heap.size ∧ w.cell? ⟨b, 0, none⟩ = some (.int .u64 x) ∧ w.cell? ⟨b, 1, none⟩ = some (.int .u64 y) ∧ k = x + y * 18446744073709551616)

theorem NatAt.later {w w' : World} {sl : Value} {k : Int} (h : NatAt w sl k) (hb : Below w.heap.size w w') : NatAt w' sl k := by
  have hs := hb.size
  rcases h with h | ⟨b, c, h1, h2, h3, h4, h5⟩ | ⟨b, c, x, y, h1, h2, h3, h4, h5, h6⟩
  · exact Or.inl h
  · exact Or.inr (Or.inl ⟨b, c, h1, h2, by omega, (hb.cell (p := ⟨b, 0, none⟩) h3).trans h4, h5⟩)
  · exact Or.inr (Or.inr ⟨b, c, x, y, h1, h2, by omega, (hb.cell (p := ⟨b, 0, none⟩) h3).trans h4, (hb.cell (p := ⟨b, 1, none⟩) h3).trans h5, h6⟩)

theorem NatAt.setCell {w : World} {a : Option Addr} {n c : Nat} {k : Int} (h : NatAt w (.slice a n c) k) (p : Addr) (v : Value) (hp : ∀ ad, a = some ad → ad.block ≠ p.block) : NatAt (w.setCell p v) (.slice a n c) k := by
  have hs : (w.setCell p v).heap.size = w.heap.size := by simp [World.setCell]
  rcases h with h | ⟨b, c', h1, h2, h3, h4, h5⟩ | ⟨b, c', x, y, h1, h2, h3, h4, h5, h6⟩
  · exact Or.inl h
  · cases h1
    have hne := hp _ rfl
    have he : ∀ o, (w.setCell p v).cell? ⟨b, o, none⟩ = w.cell? ⟨b, o, none⟩ := fun o => World.cell?_of_block (Below.heap_setCell w p v b hne)
    exact Or.inr (Or.inl ⟨_, _, rfl, h2, by rw [hs]; exact h3, (he 0).trans h4, h5⟩)
  · cases h1
    have hne := hp _ rfl
    have he : ∀ o, (w.setCell p v).cell? ⟨b, o, none⟩ = w.cell? ⟨b, o, none⟩ := fun o => World.cell?_of_block (Below.heap_setCell w p v b hne)
    exact Or.inr (Or.inr ⟨_, _, x, y, rfl, h2, by rw [hs]; exact h3, (he 0).trans h4, (he 1).trans h5, h6⟩)

theorem NatAt.pos {w : World} {a : Option Addr} {n c : Nat} {k : Int} (h : NatAt w (.slice a n c) k) : decide (0 < n) = decide (0 < k) := by
  rcases h with ⟨_, _, h1, h2⟩ | ⟨b, c', h1, h2, h3, h4, h5⟩ | ⟨b, c', x, y, h1, h2, h3, h4, h5, h6⟩
  · cases h1; subst h2; rfl
  · cases h1; simp; omega
  · cases h1; simp; omega

/-- a big.Int in block p that holds the number v -/
def BigAt (w : World) (p : Nat) (v : Int) : Prop :=
  p < w.heap.size ∧ (∃ cs, w.heap[p]? = some (.cells cs 81 (0, 0))) ∧ w.cell? ⟨p, 0, none⟩ = some (.bool (decide (v < 0))) ∧ ∃ a n c, w.cell? ⟨p, 1, none⟩ = some (.slice a n c) ∧ NatAt w (.slice a n c) (if v < 0 then -v else v)

theorem BigAt.later {w w' : World} {p : Nat} {v : Int} (h : BigAt w p v) (hb : Below w.heap.size w w') : BigAt w' p v := by
  have hs := hb.size
  obtain ⟨h1, ⟨cs, h0⟩, h2, a, n, c, h3, h4⟩ := h
  exact ⟨by omega, ⟨cs, (hb.block p h1).trans h0⟩, (hb.cell (p := ⟨p, 0, none⟩) h1).trans h2, a, n, c, (hb.cell (p := ⟨p, 1, none⟩) h1).trans h3, h4.later hb⟩

theorem lo_hi (x y : Int) : lo x y + hi x y * 18446744073709551616 = x + y := by unfold lo hi; omega

/-- the sum, of numbers of at most one word -/
theorem natAdd (sx sy : Value) (k l : Int) (w : World) (hx : NatAt w sx k) (hy : NatAt w sy l) (hk : k < 18446744073709551616) (hl : l < 18446744073709551616) :
    Calls Ybaf.prog 17 #[.slice none 0 0, sx, sy] w fun e w' => ∃ a n c, e = .returned (.slice a n c) ∧ NatAt w' (.slice a n c) (k + l) ∧ (∀ ad, a = some ad → w.heap.size ≤ ad.block) ∧ Below w.heap.size w w' := by
  rcases hx with ⟨a, c, rfl, rfl⟩ | ⟨b, c, rfl, h2, h3, h4, h5, h6⟩ | ⟨b, c, x, y, rfl, h2, h3, h4, h5, h6⟩
  · rcases hy with ⟨a', c', rfl, rfl⟩ | ⟨b', c', rfl, i2, i3, i4, i5, i6⟩ | ⟨b', c', x', y', rfl, i2, _⟩
    · refine (add00 a a' c c' w).mono ?_
      rintro e w' ⟨rfl, rfl⟩
      exact ⟨_, _, _, rfl, Or.inl ⟨_, _, rfl, by omega⟩, (fun ad h => by cases h), Below.refl _ _⟩
    · refine (add01 b' c' a c l w i3 i4).mono ?_
      rintro e w' ⟨rfl, rfl⟩
      exact ⟨_, _, _, rfl, Or.inr (Or.inl ⟨_, _, rfl, by omega, by simp, by simp, by omega, by omega⟩), (fun ad h => by cases h; exact Nat.le_refl _), (Below.refl _ _).alloc (Nat.le_refl _) _⟩
    · omega
  · rcases hy with ⟨a', c', rfl, rfl⟩ | ⟨b', c', rfl, i2, i3, i4, i5, i6⟩ | ⟨b', c', x', y', rfl, i2, _⟩
    · refine (add10 b c a' c' k w h3 h4).mono ?_
      rintro e w' ⟨rfl, rfl⟩
      exact ⟨_, _, _, rfl, Or.inr (Or.inl ⟨_, _, rfl, by omega, by simp, by simp, by omega, by omega⟩), (fun ad h => by cases h; exact Nat.le_refl _), (Below.refl _ _).alloc (Nat.le_refl _) _⟩
    · by_cases hc : k + l < 18446744073709551616
      · have e1 : hi k l = 0 := by unfold hi; omega
        have e2 : lo k l = k + l := by unfold lo; omega
        refine (add11n b c b' c' k l ⟨by omega, h6⟩ ⟨by omega, i6⟩ w h3 i3 h2 i2 h4 i4 e1 (by rw [e2]; simp; omega)).mono ?_
        rintro e w' ⟨rfl, hb, hc0, hsz⟩
        rw [e2] at hc0
        exact ⟨_, _, _, rfl, Or.inr (Or.inl ⟨_, _, rfl, by omega, hsz, hc0, by omega, by omega⟩), (fun ad h => by cases h; exact Nat.le_refl _), hb⟩
      · have e1 : hi k l = 1 := by unfold hi; omega
        refine (add11c b c b' c' k l ⟨by omega, h6⟩ ⟨by omega, i6⟩ w h3 i3 h2 i2 h4 i4 (by rw [e1]; rfl)).mono ?_
        rintro e w' ⟨rfl, hb, hc0, hc1, hsz⟩
        exact ⟨_, _, _, rfl, Or.inr (Or.inr ⟨_, _, _, _, rfl, by omega, hsz, hc0, hc1, (lo_hi k l).symm⟩), (fun ad h => by cases h; exact Nat.le_refl _), hb⟩
    · omega
  · omega

/-- the difference, of numbers of at most one word -/
theorem natSub (sx sy : Value) (k l : Int) (w : World) (hx : NatAt w sx k) (hy : NatAt w sy l) (hk : k < 18446744073709551616) (h0 : 0 < k) (hkl : l ≤ k) :
    Calls Ybaf.prog 19 #[.slice none 0 0, sx, sy] w fun e w' => ∃ a n c, e = .returned (.slice a n c) ∧ NatAt w' (.slice a n c) (k - l) ∧ (∀ ad, a = some ad → w.heap.size ≤ ad.block) ∧ Below w.heap.size w w' := by
  rcases hx with ⟨a, c, rfl, rfl⟩ | ⟨b, c, rfl, h2, h3, h4, h5, h6⟩ | ⟨b, c, x, y, rfl, h2, h3, h4, h5, h6⟩
  · omega
  · rcases hy with ⟨a', c', rfl, rfl⟩ | ⟨b', c', rfl, i2, i3, i4, i5, i6⟩ | ⟨b', c', x', y', rfl, i2, _⟩
    · refine (sub10 b c a' c' k w h3 h4).mono ?_
      rintro e w' ⟨rfl, rfl⟩
      exact ⟨_, _, _, rfl, Or.inr (Or.inl ⟨_, _, rfl, by omega, by simp, by simp, by omega, by omega⟩), (fun ad h => by cases h; exact Nat.le_refl _), (Below.refl _ _).alloc (Nat.le_refl _) _⟩
    · have e1 : bw k l = 0 := by unfold bw; rw [if_neg (by omega)]
      have e2 : dl k l = k - l := by unfold dl; omega
      by_cases hc : l = k
      · refine (sub11z b c b' c' k l ⟨by omega, h6⟩ ⟨by omega, i6⟩ w h3 i3 h2 i2 h4 i4 e1 (by omega)).mono ?_
        rintro e w' ⟨rfl, hb⟩
        exact ⟨_, _, _, rfl, Or.inl ⟨_, _, rfl, by omega⟩, (fun ad h => by cases h; exact Nat.le_refl _), hb⟩
      · refine (sub11 b c b' c' k l ⟨by omega, h6⟩ ⟨by omega, i6⟩ w h3 i3 h2 i2 h4 i4 e1 (by rw [e2]; simp; omega)).mono ?_
        rintro e w' ⟨rfl, hb, hc0, hsz⟩
        rw [e2] at hc0
        exact ⟨_, _, _, rfl, Or.inr (Or.inl ⟨_, _, rfl, by omega, hsz, hc0, by omega, by omega⟩), (fun ad h => by cases h; exact Nat.le_refl _), hb⟩
    · omega
  · omega

/-- the comparison; the second number has at most one word -/
theorem natCmp (sx sy : Value) (k l : Int) (w : World) (hx : NatAt w sx k) (hy : NatAt w sy l) (hl : l < 18446744073709551616) :
    Calls Ybaf.prog 18 #[sx, sy] w fun e w' => ∃ r, e = .returned (.int .i64 r) ∧ ((r = -1 ∧ k < l) ∨ (r = 0 ∧ k = l) ∨ (r = 1 ∧ l < k)) ∧ ∃ n, w' = w.drewN n := by
  rcases hx with ⟨a, c, rfl, rfl⟩ | ⟨b, c, rfl, h2, h3, h4, h5, h6⟩ | ⟨b, c, x, y, rfl, h2, h3, h4, h5, h6⟩
  · rcases hy with ⟨a', c', rfl, rfl⟩ | ⟨b', c', rfl, i2, i3, i4, i5, i6⟩ | ⟨b', c', x', y', rfl, i2, _⟩
    · refine (cmp00 a a' c c' w).mono ?_
      rintro e w' ⟨rfl, rfl⟩
      exact ⟨_, rfl, Or.inr (Or.inl ⟨rfl, rfl⟩), 0, rfl⟩
    · refine (cmpLt a _ c c' 0 1 w (by omega)).mono ?_
      rintro e w' ⟨rfl, rfl⟩
      exact ⟨_, rfl, Or.inl ⟨rfl, i5⟩, 0, rfl⟩
    · omega
  · rcases hy with ⟨a', c', rfl, rfl⟩ | ⟨b', c', rfl, i2, i3, i4, i5, i6⟩ | ⟨b', c', x', y', rfl, i2, _⟩
    · refine (cmpGt _ a' c c' 1 0 w (by omega)).mono ?_
      rintro e w' ⟨rfl, rfl⟩
      exact ⟨_, rfl, Or.inr (Or.inr ⟨rfl, h5⟩), 0, rfl⟩
    · rcases Int.lt_trichotomy k l with h | h | h
      · refine (cmp11lt b c b' c' k l w h4 i4 h).mono ?_
        rintro e w' ⟨rfl, n, rfl⟩
        exact ⟨_, rfl, Or.inl ⟨rfl, h⟩, n, rfl⟩
      · refine (cmp11eq b c b' c' k l w h4 i4 h.symm).mono ?_
        rintro e w' ⟨rfl, n, rfl⟩
        exact ⟨_, rfl, Or.inr (Or.inl ⟨rfl, h⟩), n, rfl⟩
      · refine (cmp11gt b c b' c' k l w h4 i4 h).mono ?_
        rintro e w' ⟨rfl, n, rfl⟩
        exact ⟨_, rfl, Or.inr (Or.inr ⟨rfl, h⟩), n, rfl⟩
    · omega
  · rcases hy with ⟨a', c', rfl, rfl⟩ | ⟨b', c', rfl, i2, i3, i4, i5, i6⟩ | ⟨b', c', x', y', rfl, i2, _⟩
    · refine (cmpGt _ a' c c' 2 0 w (by omega)).mono ?_
      rintro e w' ⟨rfl, rfl⟩
      exact ⟨_, rfl, Or.inr (Or.inr ⟨rfl, by omega⟩), 0, rfl⟩
    · refine (cmpGt _ _ c c' 2 1 w (by omega)).mono ?_
      rintro e w' ⟨rfl, rfl⟩
      exact ⟨_, rfl, Or.inr (Or.inr ⟨rfl, by omega⟩), 0, rfl⟩
    · omega

/-- -1, 0, 1 -/
def sgn3 (k l : Int) : Int := if k < l then -1 else if k = l then 0 else 1
theorem natCmp3 (sx sy : Value) (k l : Int) (w : World) (hx : NatAt w sx k) (hy : NatAt w sy l) (hl : l < 18446744073709551616) :
    Calls Ybaf.prog 18 #[sx, sy] w fun e w' => e = .returned (.int .i64 (sgn3 k l)) ∧ ∃ n, w' = w.drewN n := by
  refine (natCmp sx sy k l w hx hy hl).mono ?_
  rintro e w' ⟨r, rfl, hr, hn⟩
  have : r = sgn3 k l := by
    unfold sgn3
    rcases hr with ⟨h1, h2⟩ | ⟨h1, h2⟩ | ⟨h1, h2⟩
    · rw [if_pos h2]; exact h1
    · rw [if_neg (by omega), if_pos h2]; exact h1
    · rw [if_neg (by omega), if_neg (by omega)]; exact h1
  exact ⟨by rw [this], hn⟩

/-- big.NewInt -/
theorem newInt (x : Int) (w : World) (h1 : -9223372036854775808 ≤ x) (h2 : x ≤ 9223372036854775807) :
    Calls Ybaf.prog 6 #[.int .i64 x] w fun e w' => ∃ p, e = .returned (.pointer (some ⟨p, 0, none⟩)) ∧ w.heap.size ≤ p ∧ BigAt w' p x ∧ Below w.heap.size w w' := by
  rcases Int.lt_trichotomy x 0 with h | h | h
  · have e0 : IntKind.u64.wrap (-IntKind.u64.wrap x) = -x := by rw [IntKind.wrap_u64, IntKind.wrap_u64]; omega
    go_enter Ybaf.func6, Ybaf.ntmps6
    go_wp2
    go_ret
    refine ⟨_, rfl, by omega, ⟨by simp, ⟨_, by simpa using (MapKept.heap_alloc (w.alloc (.cells #[.int .u64 (-x)] 92)) _).1⟩, by simp [h], _, _, _, by simp [go_sem]; exact ⟨rfl, rfl, rfl⟩, ?_⟩, ((Below.refl _ _).alloc (Nat.le_refl _) _).alloc (by simp) _⟩
    rw [if_pos h]
    exact Or.inr (Or.inl ⟨_, _, rfl, by omega, by simp; omega, by simp [go_sem], by omega, by omega⟩)
  · subst h
    go_enter Ybaf.func6, Ybaf.ntmps6
    go_wp2
    go_ret
    exact ⟨_, rfl, by omega, ⟨by simp, ⟨_, (MapKept.heap_alloc w _).1⟩, by simp, none, 0, 0, by simp [go_sem], Or.inl ⟨_, _, rfl, rfl⟩⟩, (Below.refl _ _).alloc (Nat.le_refl _) _⟩
  · have h' : ¬ x < 0 := by omega
    go_enter Ybaf.func6, Ybaf.ntmps6
    go_wp2
    go_ret
    refine ⟨_, rfl, by omega, ⟨by simp, ⟨_, by simpa using (MapKept.heap_alloc (w.alloc (.cells #[.int .u64 x] 92)) _).1⟩, by simp; omega, _, _, _, by simp [go_sem]; exact ⟨rfl, rfl, rfl⟩, ?_⟩, ((Below.refl _ _).alloc (Nat.le_refl _) _).alloc (by simp) _⟩
    rw [if_neg (by omega)]
    exact Or.inr (Or.inl ⟨_, _, rfl, by omega, by simp; omega, by simp [go_sem], by omega, by omega⟩)
end Go.Proofs.YbulkedxcFmt
