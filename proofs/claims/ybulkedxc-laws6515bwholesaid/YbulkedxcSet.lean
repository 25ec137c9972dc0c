/-
  LawS6515BWhole: a set of items as a map: what a range over it hands out.
-/
import Derived.Test.YbulkedxcAns4
import Derived.Laws.IdiomRangeMap
namespace Go.Proofs.Ybulkedxc
open Go.RowKit

theorem bits_mem (mk j : Nat) : j ∈ bitsOf mk ↔ j < 4 ∧ mk.testBit j = true := by simp [bitsOf]
theorem bits_nodup (mk : Nat) : (bitsOf mk).Nodup := List.Nodup.sublist List.filter_sublist List.nodup_range
theorem set_mem {mk : Nat} {e : MapEntry} (h : e ∈ (setEnts mk).toList) : ∃ j, (bitsOf mk)[e.born]? = some j ∧ e = { key := .string (nm j), val := .bool true, born := e.born } := by
  unfold setEnts at h
  simp only [List.mem_map] at h
  obtain ⟨⟨j, b⟩, hp, rfl⟩ := h
  rw [List.mem_zipIdx_iff_getElem?] at hp
  exact ⟨j, hp, rfl⟩
theorem set_of {mk b j : Nat} (h : (bitsOf mk)[b]? = some j) : ({ key := .string (nm j), val := .bool true, born := b } : MapEntry) ∈ (setEnts mk).toList := by
  unfold setEnts
  simp only [List.mem_map]
  exact ⟨(j, b), by rw [List.mem_zipIdx_iff_getElem?]; exact h, rfl⟩
theorem set_old (mk : Nat) : ∀ x ∈ (setEnts mk).toList, x.born < (bitsOf mk).length := by
  intro x hx
  obtain ⟨j, hj, _⟩ := set_mem hx
  exact (List.getElem?_eq_some_iff.1 hj).1
theorem set_borns (mk : Nat) : ((setEnts mk).toList.map (·.born)).Nodup := by
  unfold setEnts
  simp only [List.map_map]
  have : ((fun x : MapEntry => x.born) ∘ fun p : Nat × Nat => ({ key := .string (nm p.1), val := .bool true, born := p.2 } : MapEntry)) = Prod.snd := by funext p; rfl
  rw [this, List.zipIdx_map_snd]
  exact List.nodup_range'

/-- is j's entry among those handed out? -/
def hit (mk : Nat) (seen : Array Nat) (j : Nat) : Bool := (bitsOf mk).zipIdx.any fun p => p.1 == j && seen.contains p.2
theorem hit_iff (mk : Nat) (seen : Array Nat) (j : Nat) : hit mk seen j = true ↔ ∃ b, (bitsOf mk)[b]? = some j ∧ seen.contains b = true := by
  unfold hit
  rw [List.any_eq_true]
  constructor
  · rintro ⟨⟨a, b⟩, hp, h⟩
    rw [List.mem_zipIdx_iff_getElem?] at hp
    simp only [Bool.and_eq_true, beq_iff_eq] at h
    exact ⟨b, by rw [← h.1]; exact hp, h.2⟩
  · rintro ⟨b, hb, h⟩
    exact ⟨(j, b), by rw [List.mem_zipIdx_iff_getElem?]; exact hb, by rw [h]; simp⟩
theorem hit_empty (mk j : Nat) : hit mk #[] j = false := by
  rw [Bool.eq_false_iff]
  intro h
  obtain ⟨b, _, hb⟩ := (hit_iff _ _ _).1 h
  simp at hb
theorem bits_inj {mk a b j : Nat} (ha : (bitsOf mk)[a]? = some j) (hb : (bitsOf mk)[b]? = some j) : a = b := by
  exact (List.getElem?_inj (List.getElem?_eq_some_iff.1 ha).1 (bits_nodup mk)).1 (ha.trans hb.symm)
theorem hit_fresh {mk b j : Nat} {seen : Array Nat} (hb : (bitsOf mk)[b]? = some j) (hs : seen.contains b = false) : hit mk seen j = false := by
  rw [Bool.eq_false_iff]
  intro h
  obtain ⟨a, ha, hc⟩ := (hit_iff _ _ _).1 h
  rw [bits_inj ha hb, hs] at hc
  cases hc
theorem hit_push {mk b j0 : Nat} {seen : Array Nat} (hb : (bitsOf mk)[b]? = some j0) (j : Nat) : hit mk (seen.push b) j = (hit mk seen j || j == j0) := by
  rw [Bool.eq_iff_iff, Bool.or_eq_true, hit_iff, hit_iff]
  constructor
  · rintro ⟨a, ha, hc⟩
    rw [contains_push, Bool.or_eq_true] at hc
    rcases hc with hc | hc
    · exact Or.inl ⟨a, ha, hc⟩
    · right
      rw [beq_iff_eq] at hc
      subst hc
      rw [hb] at ha
      simp [Option.some.inj ha]
  · rintro (⟨a, ha, hc⟩ | h)
    · exact ⟨a, ha, by rw [contains_push, hc]; rfl⟩
    · rw [beq_iff_eq] at h
      subst h
      exact ⟨b, hb, by rw [contains_push]; simp⟩
theorem hit_full {mk : Nat} {seen : Array Nat} (h : (leftOf (setEnts mk) seen).size = 0) (j : Nat) : hit mk seen j = (decide (j < 4) && mk.testBit j) := by
  rw [Bool.eq_iff_iff, hit_iff]
  constructor
  · rintro ⟨b, hb, _⟩
    have := (bits_mem mk j).1 (List.mem_of_getElem? hb)
    simp [this.1, this.2]
  · intro hj
    simp at hj
    obtain ⟨b, hb⟩ := List.getElem?_of_mem ((bits_mem mk j).2 hj)
    refine ⟨b, hb, ?_⟩
    cases hc : seen.contains b with
    | true => rfl
    | false =>
      have hm := set_of hb
      have he : leftOf (setEnts mk) seen = #[] := Array.eq_empty_of_size_eq_zero h
      have : ({ key := .string (nm j), val := .bool true, born := b } : MapEntry) ∈ leftOf (setEnts mk) seen := by
        unfold leftOf
        rw [Array.mem_filter]
        exact ⟨Array.mem_toList_iff.1 hm, by show (!seen.contains b) = true; rw [hc]; rfl⟩
      rw [he] at this
      simp at this
end Go.Proofs.Ybulkedxc
