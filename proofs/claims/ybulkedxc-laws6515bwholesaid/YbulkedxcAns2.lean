/-
  LawS6515BWhole: answer, walked.
-/
import Derived.Test.YbulkedxcAns
namespace Go.Proofs.Ybulkedxc
open Go.RowKit

theorem range_split (n i : Nat) (hi : i < n) : ∃ r, List.range n = List.range i ++ i :: r ∧ ∀ j ∈ r, i < j := by
  refine ⟨(List.range (n - i - 1)).map (· + (i + 1)), ?_, ?_⟩
  · apply List.ext_getElem
    · simp; omega
    · intro k h1 h2
      simp only [List.getElem_range]
      rcases Nat.lt_trichotomy k i with h | h | h
      · rw [List.getElem_append_left (by simpa using h)]; simp
      · subst h
        rw [List.getElem_append_right (by simp)]; simp
      · rw [List.getElem_append_right (by simp; omega)]
        have e : k - (List.range i).length = (k - i - 1) + 1 := by simp; omega
        simp only [e, List.getElem_cons_succ]
        simp
        omega
  · intro j hj
    simp at hj
    obtain ⟨a, _, rfl⟩ := hj
    omega

/-- a filtered range parts at a member; without it -/
theorem filter_part (n i : Nat) (hi : i < n) (p q : Nat → Bool) (hp : p i = true) (hq : q i = false) (he : ∀ j, j ≠ i → q j = p j) :
    ∃ l r, (List.range n).filter p = l ++ i :: r ∧ (∀ j ∈ l, j ≠ i) ∧ (∀ j ∈ r, j ≠ i) ∧ (List.range n).filter q = l ++ r := by
  obtain ⟨r, hr, hgt⟩ := range_split n i hi
  have e1 : (List.range i).filter q = (List.range i).filter p := List.filter_congr (fun j hj => he j (by have := List.mem_range.1 hj; omega))
  have e2 : r.filter q = r.filter p := List.filter_congr (fun j hj => he j (by have := hgt j hj; omega))
  refine ⟨(List.range i).filter p, r.filter p, ?_, ?_, ?_, ?_⟩
  · rw [hr, List.filter_append, List.filter_cons, hp]; rfl
  · intro j hj; have := (List.mem_filter.1 hj).1; have := List.mem_range.1 this; omega
  · intro j hj; have := hgt j (List.mem_filter.1 hj).1; omega
  · rw [hr, List.filter_append, List.filter_cons, hq, e1, e2]; rfl

/-- deleting a key from a map of entries by number -/
theorem part_find (l r : List Nat) (i : Nat) (key : Nat → Int) (val : Nat → Value) (born : Nat → Nat) (hk : ∀ j, j ≠ i → key j ≠ key i) (hl : ∀ j ∈ l, j ≠ i) :
    Instr.findNow (.int .i64) (.int .i64 (key i)) ((l ++ i :: r).map fun j => ent (key j) (val j) (born j)) 0 = some (some (l.length, val i)) := by
  rw [List.map_append, List.map_cons]
  have := findNow_some (key i) (val i) (born i) (l.map fun j => ent (key j) (val j) (born j)) (r.map fun j => ent (key j) (val j) (born j)) 0 (by
    intro e he
    obtain ⟨j, hj, rfl⟩ := List.mem_map.1 he
    exact ⟨_, _, _, rfl, hk j (hl j hj)⟩)
  simpa using this
theorem part_erase (l r : List Nat) (i : Nat) (f : Nat → MapEntry) : ((l ++ i :: r).map f).toArray.eraseIdxIfInBounds l.length = ((l ++ r).map f).toArray := by
  rw [Array.eraseIdxIfInBounds, dif_pos (by simp)]
  apply Array.toList_inj.1
  simp [List.eraseIdx_append_of_length_le]

/-- the transaction's flag set -/
def setT (f : Nat → Bool) (i : Nat) : Nat → Bool := fun j => if j = i then true else f j
theorem setT_same (f : Nat → Bool) (i : Nat) : setT f i i = true := by simp [setT]
attribute [local simp] setT_same
theorem setT_ne (f : Nat → Bool) {i j : Nat} (h : j ≠ i) : setT f i j = f j := by simp [setT, h]

theorem wait_part (A : Role → Nat) (E : Env) (S : Sys) (i : Nat) (hi : i < E.n) (hw : (E.sp i).wait = true) (ha : S.an i = false) (S' : Sys) (hS : S'.an = setT S.an i) :
    ∃ k, Instr.findNow (.int .i64) (.int .i64 (((i : Int) + 1) * 10)) ((waitL E S).map (waitE A E)).toArray.toList 0 = some (some (k, ptr (A (.U i)))) ∧
      ((waitL E S).map (waitE A E)).toArray.eraseIdxIfInBounds k = ((waitL E S').map (waitE A E)).toArray := by
  obtain ⟨l, r, h1, h2, _, h4⟩ := filter_part E.n i hi (fun i => (E.sp i).wait && !S.an i) (fun i => (E.sp i).wait && !S'.an i) (by simp [hw, ha]) (by simp [hS]) (by intro j hj; simp [hS, setT_ne _ hj])
  refine ⟨l.length, ?_, ?_⟩
  · show Instr.findNow _ _ ((waitL E S).map (waitE A E)) 0 = _
    unfold waitL
    rw [h1]
    exact part_find l r i (fun j => ((j : Int) + 1) * 10) (fun j => ptr (A (.U j))) (rank E) (by intro j hj; omega) h2
  · unfold waitL
    rw [h1, h4]
    exact part_erase l r i _

theorem live_part (A : Role → Nat) (E : Env) (S : Sys) (i : Nat) (hi : i < E.n) (he : S.en i = false) (S' : Sys) (hS : S'.en = setT S.en i) :
    ∃ k, Instr.findNow (.int .i64) (.int .i64 ((i : Int) + 1)) ((liveL E S).map (liveE A)).toArray.toList 0 = some (some (k, ptr (A (.U i)))) ∧
      ((liveL E S).map (liveE A)).toArray.eraseIdxIfInBounds k = ((liveL E S').map (liveE A)).toArray := by
  obtain ⟨l, r, h1, h2, _, h4⟩ := filter_part E.n i hi (fun i => !S.en i) (fun i => !S'.en i) (by simp [he]) (by simp [hS]) (by intro j hj; simp [hS, setT_ne _ hj])
  refine ⟨l.length, ?_, ?_⟩
  · show Instr.findNow _ _ ((liveL E S).map (liveE A)) 0 = _
    unfold liveL
    rw [h1]
    exact part_find l r i (fun j => (j : Int) + 1) (fun j => ptr (A (.U j))) (fun j => j) (by intro j hj; omega) h2
  · unfold liveL
    rw [h1, h4]
    exact part_erase l r i _
end Go.Proofs.Ybulkedxc
