/-
  LawS6515CWhole: (*Int).Add, (*Int).Cmp.
-/
import Derived.Test.YbulkedxcFmtAt
namespace Go.Proofs.YbulkedxcFmt
open Go.RowKit

theorem heap2 {w : World} {b : Nat} {t : TypeId} {fr : Nat × Nat} (h : ∃ cs, w.heap[b]? = some (.cells cs t fr)) (o o' : Nat) (v v' : Value) : ∃ cs, ((w.setCell ⟨b, o, none⟩ v).setCell ⟨b, o', none⟩ v').heap[b]? = some (.cells cs t fr) := by
  obtain ⟨cs, h⟩ := h
  obtain ⟨cs', h'⟩ := heap_setCell_same h o v
  exact heap_setCell_same h' o' v'

theorem quiet_of2 {P : Program} {f : FuncId} {args : Array Value} {w : World} {a n : Nat} {v : Value}
    (h : Calls P f args (w.drewN (a + n)) fun e w' => e = .returned v ∧ ∃ m, w' = (w.drewN (a + n)).drewN m) : Calls P f args (w.drewN (a + n)) fun e w'' => e = .returned v ∧ ∃ m, w'' = w.drewN (a + m) :=
  h.mono fun _ _ ⟨he, m, hm⟩ => ⟨he, n + m, by rw [hm, World.drewN_drewN, Nat.add_assoc]⟩

set_option maxHeartbeats 800000 in
theorem addSame (z px py : Nat) (nb v : Bool) (sx sy : Value) (k l : Int) (w : World) (hz : z < w.heap.size) (hzh : ∃ cs, w.heap[z]? = some (.cells cs 81 (0, 0)))
    (hz0 : w.cell? ⟨z, 0, none⟩ = some (.bool v)) (hz1 : w.cell? ⟨z, 1, none⟩ = some (.slice none 0 0)) (hf0 : w.frozen? ⟨z, 0, none⟩ = false) (hf1 : w.frozen? ⟨z, 1, none⟩ = false)
    (hx0 : w.cell? ⟨px, 0, none⟩ = some (.bool nb)) (hx1 : w.cell? ⟨px, 1, none⟩ = some sx) (hy0 : w.cell? ⟨py, 0, none⟩ = some (.bool nb)) (hy1 : w.cell? ⟨py, 1, none⟩ = some sy)
    (hx : NatAt w sx k) (hy : NatAt w sy l) (hk : k < 18446744073709551616) (hl : l < 18446744073709551616) :
    Calls Ybaf.prog 5 #[.pointer (some ⟨z, 0, none⟩), .pointer (some ⟨px, 0, none⟩), .pointer (some ⟨py, 0, none⟩)] w fun e w' =>
      e = .returned (.pointer (some ⟨z, 0, none⟩)) ∧ Below z w w' ∧ z < w'.heap.size ∧ (∃ cs, w'.heap[z]? = some (.cells cs 81 (0, 0))) ∧ ∃ a n c, w'.cell? ⟨z, 1, none⟩ = some (.slice a n c) ∧ NatAt w' (.slice a n c) (k + l) ∧ w'.cell? ⟨z, 0, none⟩ = some (.bool (decide (0 < n) && nb)) := by
  have HZH : Hid (∃ cs, w.heap[z]? = some (.cells cs 81 (0, 0))) := hzh
  clear hzh
  go_enter Ybaf.func5, Ybaf.ntmps5
  go_wp2
  go_quiet (fail)
  go_wp2_with fail
  go_region_with ((first | (go_at_call 17; refine (natAdd sx sy k l _ ?_ ?_ hk hl).mono ?_; (exact hx); (exact hy); rintro e w' ⟨sa, sn, sc, rfl, hN, hA, hB⟩; have hz1' := (hB.cell (p := ⟨z, 1, none⟩) hz).trans hz1; have hf1' := (hB.frozen (p := ⟨z, 1, none⟩) hz).trans hf1; have hz0' := (hB.cell (p := ⟨z, 0, none⟩) hz).trans hz0; have hf0' := (hB.frozen (p := ⟨z, 0, none⟩) hz).trans hf0)))
  all_goals
    clear hx hy hz0 hz1 hf0 hf1 hx0 hx1 hy0 hy1 hk hl
    have hs' : w.heap.size ≤ w'.heap.size := hB.size
    have HZ : Hid (∃ cs, w'.heap[z]? = some (.cells cs 81 (0, 0))) := by obtain ⟨cs, h⟩ := HZH.out; exact ⟨cs, (hB.block z hz).trans h⟩
    have HA : Hid (∀ ad, sa = some ad → w.heap.size ≤ ad.block) := hA
    have HN : Hid (NatAt w' (.slice sa sn sc) (k + l)) := hN
    have HB : Hid (Below z w w') := ((below_drewN (Below.refl w.heap.size w) _).trans hB).mono (Nat.le_of_lt hz)
    clear hA hN hB HZH
    rcases Nat.eq_zero_or_pos sn with h0 | h0
    · subst h0
      go_wp2
      go_ret
      refine ⟨rfl, (HB.out.setCell (Nat.le_refl _) _).setCell (Nat.le_refl _) _, by simp; omega, heap2 HZ.out _ _ _ _, sa, 0, sc, by simp [go_sem, hz1'], (HN.out.setCell _ _ ?_).setCell _ _ ?_, by simp [go_sem, hz0']⟩
      · intro ad h; have := HA.out ad h; simp; omega
      · intro ad h; have := HA.out ad h; simp; omega
    · have h0' : (0 : Int) < (sn : Int) := by omega
      go_wp2
      go_ret
      refine ⟨rfl, (HB.out.setCell (Nat.le_refl _) _).setCell (Nat.le_refl _) _, by simp; omega, heap2 HZ.out _ _ _ _, sa, sn, sc, by simp [go_sem, hz1'], (HN.out.setCell _ _ ?_).setCell _ _ ?_, by simp [go_sem, hz0', h0]⟩
      · intro ad h; have := HA.out ad h; simp; omega
      · intro ad h; have := HA.out ad h; simp; omega

set_option maxHeartbeats 800000 in
theorem addGe (z px py : Nat) (nb v : Bool) (sx sy : Value) (k l : Int) (w : World) (hz : z < w.heap.size) (hzh : ∃ cs, w.heap[z]? = some (.cells cs 81 (0, 0)))
    (hz0 : w.cell? ⟨z, 0, none⟩ = some (.bool v)) (hz1 : w.cell? ⟨z, 1, none⟩ = some (.slice none 0 0)) (hf0 : w.frozen? ⟨z, 0, none⟩ = false) (hf1 : w.frozen? ⟨z, 1, none⟩ = false)
    (hx0 : w.cell? ⟨px, 0, none⟩ = some (.bool nb)) (hx1 : w.cell? ⟨px, 1, none⟩ = some sx) (hy0 : w.cell? ⟨py, 0, none⟩ = some (.bool (!nb))) (hy1 : w.cell? ⟨py, 1, none⟩ = some sy)
    (hx : NatAt w sx k) (hy : NatAt w sy l) (hk : k < 18446744073709551616) (hl : l < 18446744073709551616) (hc : l ≤ k) (h0 : 0 < k) :
    Calls Ybaf.prog 5 #[.pointer (some ⟨z, 0, none⟩), .pointer (some ⟨px, 0, none⟩), .pointer (some ⟨py, 0, none⟩)] w fun e w' =>
      e = .returned (.pointer (some ⟨z, 0, none⟩)) ∧ Below z w w' ∧ z < w'.heap.size ∧ (∃ cs, w'.heap[z]? = some (.cells cs 81 (0, 0))) ∧ ∃ a n c, w'.cell? ⟨z, 1, none⟩ = some (.slice a n c) ∧ NatAt w' (.slice a n c) (k - l) ∧ w'.cell? ⟨z, 0, none⟩ = some (.bool (decide (0 < n) && nb)) := by
  have hne : (nb == !nb) = false := by cases nb <;> rfl
  have hs3 : 0 ≤ sgn3 k l := by unfold sgn3; split <;> (try split) <;> omega
  have HZH : Hid (∃ cs, w.heap[z]? = some (.cells cs 81 (0, 0))) := hzh
  clear hzh
  go_enter Ybaf.func5, Ybaf.ntmps5
  go_wp2
  go_quiet (fail)
  go_wp2_with fail
  go_quiet ((go_at_call 18; exact quiet_of2 (natCmp3 sx sy k l _ (by exact hx) (by exact hy) hl)))
  go_wp2_with fail
  go_region_with ((first | (go_at_call 19; refine (natSub sx sy k l _ (by exact hx) (by exact hy) hk h0 hc).mono ?_; rintro e w' ⟨sa, sn, sc, rfl, hN, hA, hB⟩; have hz1' := (hB.cell (p := ⟨z, 1, none⟩) hz).trans hz1; have hf1' := (hB.frozen (p := ⟨z, 1, none⟩) hz).trans hf1; have hz0' := (hB.cell (p := ⟨z, 0, none⟩) hz).trans hz0; have hf0' := (hB.frozen (p := ⟨z, 0, none⟩) hz).trans hf0)))
  all_goals
    clear hx hy hz0 hz1 hf0 hf1 hx0 hx1 hy0 hy1 hk hl hs3 hne
    have hs' : w.heap.size ≤ w'.heap.size := hB.size
    have HZ : Hid (∃ cs, w'.heap[z]? = some (.cells cs 81 (0, 0))) := by obtain ⟨cs, h⟩ := HZH.out; exact ⟨cs, (hB.block z hz).trans h⟩
    have HA : Hid (∀ ad, sa = some ad → w.heap.size ≤ ad.block) := hA
    have HN : Hid (NatAt w' (.slice sa sn sc) (k - l)) := hN
    have HB : Hid (Below z w w') := ((below_drewN (Below.refl w.heap.size w) _).trans hB).mono (Nat.le_of_lt hz)
    clear hA hN hB HZH
    rcases Nat.eq_zero_or_pos sn with h0 | h0
    · subst h0
      go_wp2
      go_ret
      refine ⟨rfl, (HB.out.setCell (Nat.le_refl _) _).setCell (Nat.le_refl _) _, by simp; omega, heap2 HZ.out _ _ _ _, sa, 0, sc, by simp [go_sem, hz1'], (HN.out.setCell _ _ ?_).setCell _ _ ?_, by simp [go_sem, hz0']⟩
      · intro ad h; have := HA.out ad h; simp; omega
      · intro ad h; have := HA.out ad h; simp; omega
    · have h0' : (0 : Int) < (sn : Int) := by omega
      go_wp2
      go_ret
      refine ⟨rfl, (HB.out.setCell (Nat.le_refl _) _).setCell (Nat.le_refl _) _, by simp; omega, heap2 HZ.out _ _ _ _, sa, sn, sc, by simp [go_sem, hz1'], (HN.out.setCell _ _ ?_).setCell _ _ ?_, by simp [go_sem, hz0', h0]⟩
      · intro ad h; have := HA.out ad h; simp; omega
      · intro ad h; have := HA.out ad h; simp; omega

set_option maxHeartbeats 800000 in
theorem addLt (z px py : Nat) (nb v : Bool) (sx sy : Value) (k l : Int) (w : World) (hz : z < w.heap.size) (hzh : ∃ cs, w.heap[z]? = some (.cells cs 81 (0, 0)))
    (hz0 : w.cell? ⟨z, 0, none⟩ = some (.bool v)) (hz1 : w.cell? ⟨z, 1, none⟩ = some (.slice none 0 0)) (hf0 : w.frozen? ⟨z, 0, none⟩ = false) (hf1 : w.frozen? ⟨z, 1, none⟩ = false)
    (hx0 : w.cell? ⟨px, 0, none⟩ = some (.bool nb)) (hx1 : w.cell? ⟨px, 1, none⟩ = some sx) (hy0 : w.cell? ⟨py, 0, none⟩ = some (.bool (!nb))) (hy1 : w.cell? ⟨py, 1, none⟩ = some sy)
    (hx : NatAt w sx k) (hy : NatAt w sy l) (hl : l < 18446744073709551616) (hc : k < l) (h0 : 0 < l) :
    Calls Ybaf.prog 5 #[.pointer (some ⟨z, 0, none⟩), .pointer (some ⟨px, 0, none⟩), .pointer (some ⟨py, 0, none⟩)] w fun e w' =>
      e = .returned (.pointer (some ⟨z, 0, none⟩)) ∧ Below z w w' ∧ z < w'.heap.size ∧ (∃ cs, w'.heap[z]? = some (.cells cs 81 (0, 0))) ∧ ∃ a n c, w'.cell? ⟨z, 1, none⟩ = some (.slice a n c) ∧ NatAt w' (.slice a n c) (l - k) ∧ w'.cell? ⟨z, 0, none⟩ = some (.bool (decide (0 < n) && !nb)) := by
  have hne : (nb == !nb) = false := by cases nb <;> rfl
  have hs3 : sgn3 k l < 0 := by unfold sgn3; split <;> (try split) <;> omega
  have HZH : Hid (∃ cs, w.heap[z]? = some (.cells cs 81 (0, 0))) := hzh
  clear hzh
  go_enter Ybaf.func5, Ybaf.ntmps5
  go_wp2
  go_quiet (fail)
  go_wp2_with fail
  go_quiet ((go_at_call 18; exact quiet_of2 (natCmp3 sx sy k l _ (by exact hx) (by exact hy) hl)))
  go_wp2_with fail
  go_region_with ((first | (go_at_call 19; refine (natSub sy sx l k _ (by exact hy) (by exact hx) hl h0 (Int.le_of_lt hc)).mono ?_; rintro e w' ⟨sa, sn, sc, rfl, hN, hA, hB⟩; have hz1' := (hB.cell (p := ⟨z, 1, none⟩) hz).trans hz1; have hf1' := (hB.frozen (p := ⟨z, 1, none⟩) hz).trans hf1; have hz0' := (hB.cell (p := ⟨z, 0, none⟩) hz).trans hz0; have hf0' := (hB.frozen (p := ⟨z, 0, none⟩) hz).trans hf0)))
  all_goals
    clear hx hy hz0 hz1 hf0 hf1 hx0 hx1 hy0 hy1 hl hs3 hne
    have hs' : w.heap.size ≤ w'.heap.size := hB.size
    have HZ : Hid (∃ cs, w'.heap[z]? = some (.cells cs 81 (0, 0))) := by obtain ⟨cs, h⟩ := HZH.out; exact ⟨cs, (hB.block z hz).trans h⟩
    have HA : Hid (∀ ad, sa = some ad → w.heap.size ≤ ad.block) := hA
    have HN : Hid (NatAt w' (.slice sa sn sc) (l - k)) := hN
    have HB : Hid (Below z w w') := ((below_drewN (Below.refl w.heap.size w) _).trans hB).mono (Nat.le_of_lt hz)
    clear hA hN hB HZH
    rcases Nat.eq_zero_or_pos sn with h0 | h0
    · subst h0
      go_wp2
      go_ret
      refine ⟨rfl, (HB.out.setCell (Nat.le_refl _) _).setCell (Nat.le_refl _) _, by simp; omega, heap2 HZ.out _ _ _ _, sa, 0, sc, by simp [go_sem, hz1'], (HN.out.setCell _ _ ?_).setCell _ _ ?_, by simp [go_sem, hz0']⟩
      · intro ad h; have := HA.out ad h; simp; omega
      · intro ad h; have := HA.out ad h; simp; omega
    · have h0' : (0 : Int) < (sn : Int) := by omega
      go_wp2
      go_ret
      refine ⟨rfl, (HB.out.setCell (Nat.le_refl _) _).setCell (Nat.le_refl _) _, by simp; omega, heap2 HZ.out _ _ _ _, sa, sn, sc, by simp [go_sem, hz1'], (HN.out.setCell _ _ ?_).setCell _ _ ?_, by simp [go_sem, hz0', h0]⟩
      · intro ad h; have := HA.out ad h; simp; omega
      · intro ad h; have := HA.out ad h; simp; omega
end Go.Proofs.YbulkedxcFmt
