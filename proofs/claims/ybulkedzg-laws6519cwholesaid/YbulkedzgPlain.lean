/-
  LawS6519CWhole: the quoting, plain.
-/
import Derived.Test.YbulkedzgRows
import Derived.WalkKit
namespace Go.Proofs.Ybulkedzg
open Go.RowKit

/-- what one byte becomes -/
def rep (c : UInt8) : List UInt8 := if c = 92 then [92, 92] else if c = 34 then [92, 34] else if c = 10 then [92, 110] else [c]
/-- what a string becomes -/
def quo (l : List UInt8) : List UInt8 := l.flatMap rep
/-- bytes as cells -/
def vals (l : List UInt8) : List Value := l.map fun c => Value.int .u8 c.toNat
/-- is the byte one of the three? -/
def spec3 (c : UInt8) : Bool := c == 92 || c == 34 || c == 10

theorem rep_len (c : UInt8) : (rep c).length = if spec3 c then 2 else 1 := by
  unfold rep spec3
  by_cases h1 : c = 92
  · subst h1; rfl
  · by_cases h2 : c = 34
    · subst h2; rfl
    · by_cases h3 : c = 10
      · subst h3; rfl
      · simp [h1, h2, h3]
theorem rep_le (c : UInt8) : 1 ≤ (rep c).length ∧ (rep c).length ≤ 2 := by
  rw [rep_len]; split <;> omega
theorem quo_snoc (l : List UInt8) (c : UInt8) : quo (l ++ [c]) = quo l ++ rep c := by simp [quo]
theorem quo_len (l : List UInt8) : (quo l).length = l.length + l.countP spec3 := by
  induction l with
  | nil => rfl
  | cons c r ih =>
    have : quo (c :: r) = rep c ++ quo r := rfl
    rw [this, List.length_append, ih, rep_len, List.countP_cons]
    simp only [List.length_cons]
    split <;> omega
theorem quo_le (l : List UInt8) : (quo l).length ≤ 2 * l.length := by
  rw [quo_len]; have := List.countP_le_length (p := spec3) (l := l); omega
theorem quo_plain (l : List UInt8) (h : l.countP spec3 = 0) : quo l = l := by
  induction l with
  | nil => rfl
  | cons c r ih =>
    have e : quo (c :: r) = rep c ++ quo r := rfl
    rw [List.countP_cons] at h
    have h1 : r.countP spec3 = 0 := by omega
    have h2 : spec3 c = false := by
      cases hs : spec3 c
      · rfl
      · rw [hs] at h; simp at h
    rw [e, ih h1]
    unfold spec3 at h2
    simp at h2
    unfold rep
    simp [h2]
theorem vals_append (a b : List UInt8) : vals (a ++ b) = vals a ++ vals b := by simp [vals]
theorem vals_len (a : List UInt8) : (vals a).length = a.length := by simp [vals]
theorem take_snoc (s : ByteArray) (k : Nat) (h : k < s.size) : s.data.toList.take (k + 1) = s.data.toList.take k ++ [s[k]] := by
  rw [List.take_succ_eq_append_getElem (by simpa using h)]; rfl
theorem quo_take (s : ByteArray) (k : Nat) (h : k < s.size) : quo (s.data.toList.take (k + 1)) = quo (s.data.toList.take k) ++ rep s[k] := by
  rw [take_snoc s k h, quo_snoc]
theorem quo_take_le (s : ByteArray) (k : Nat) (h : k ≤ s.size) : (quo (s.data.toList.take k)).length ≤ 2 * k := by
  have := quo_le (s.data.toList.take k)
  have h2 : (s.data.toList.take k).length = k := by simp; omega
  omega
theorem rep_92 : rep 92 = [92, 92] := rfl
theorem rep_34 : rep 34 = [92, 34] := rfl
theorem rep_10 : rep 10 = [92, 110] := rfl
theorem rep_else (c : UInt8) (h1 : ¬ c = 92) (h2 : ¬ c = 34) (h3 : ¬ c = 10) : rep c = [c] := by simp [rep, h1, h2, h3]

theorem own_block {w : World} {B : Nat} {e : TypeId} {size : Nat} {v : Value} {n : Nat} {xs : List Value} (h : w.ownsRow B e size v n xs) : ∀ k, v.ownBlock = some k → B ≤ k := by
  intro k hk
  rcases h.2 with ⟨rfl, _⟩ | ⟨g, cap, cur, rfl, hg, _⟩
  · simp [Value.ownBlock] at hk
  · simp [Value.ownBlock] at hk; omega
end Go.Proofs.Ybulkedzg
