/-
  LawS6515BWhole: cascade, the notes.
-/
import Derived.Test.YbulkedxcAb
import Derived.Lib.SliceRun
namespace Go.Proofs.Ybulkedxc
open Go.RowKit

set_option maxRecDepth 100000 in
theorem cascade_any (s : Nat) (cv : Value) (c : Int) (w : World) (h0 : w.cell? ⟨s, 0, none⟩ = some cv) (h1 : w.cell? ⟨s, 1, none⟩ = some (.int .i64 c)) (f1 : w.frozen? ⟨s, 1, none⟩ = false) :
    Calls Yba.prog 52 #[.pointer (some ⟨s, 0, none⟩)] w fun e w' => e = .returned cv ∧ w' = w.setCell ⟨s, 1, none⟩ (.int .i64 (wrap64 (c + 1))) := by
  go_enter Yba.func52, Yba.ntmps52
  go_wp2
  go_ret
  exact ⟨rfl, rfl⟩

set_option maxRecDepth 100000 in
theorem value_any (p : Nat) (it : ByteArray) (vl : Int) (w : World) (h0 : w.cell? ⟨p, 0, none⟩ = some (.string it)) (h1 : w.cell? ⟨p, 1, none⟩ = some (.int .i64 vl)) :
    Calls Yba.prog 62 #[.pointer (some ⟨p, 0, none⟩)] w fun e w' => e = .returned (.iface 121 (.agg #[.string it, .int .i64 vl])) ∧ w' = w := by
  go_enter Yba.func62, Yba.ntmps62
  go_wp2
  go_ret
  exact ⟨rfl, rfl⟩



theorem info125 : (Yba.prog.info? 125).map (fun i => (i.zero, i.size, i.bytes)) = some (some .nilIface, 1, 16) := by kernel_rfl

theorem own_some {w : World} {B n : Nat} {e : TypeId} {v : Value} {xs : List Value} (h : w.ownsRow B e 1 v n xs) (hv : v ≠ .slice none 0 0) :
    ∃ g cap, v = .slice (some ⟨g, 0, none⟩) n cap ∧ B ≤ g ∧ g < w.heap.size ∧ n ≤ cap ∧ (∀ j, w.frozen? ⟨g, j, none⟩ = false) ∧ ∀ j u, xs[j]? = some u → w.cell? ⟨g, j, none⟩ = some u := by
  obtain ⟨h1, h2⟩ := h
  rcases h2 with ⟨h3, _⟩ | ⟨g, cap, cur, rfl, hg, hheap, hnc, _, hsz, htk⟩
  · exact absurd h3 hv
  · refine ⟨g, cap, rfl, hg, (Array.getElem?_eq_some_iff.1 hheap).1, hnc, fun j => by simp [World.frozen?, hheap], ?_⟩
    intro j u hj
    have hjn : j < n := by
      rcases Nat.lt_or_ge j n with h | h
      · exact h
      · rw [List.getElem?_eq_none (by rw [h1]; omega)] at hj; cases hj
    rw [← htk, List.getElem?_take_of_lt (by omega)] at hj
    simp only [World.cell?, hheap]
    simpa using hj

theorem cloneN_nil (w : World) : Calls Yba.prog 8 #[.slice none 0 0] w fun e w' => e = .returned (.slice none 0 0) ∧ w' = w := by
  have hq := Lib.run_eql_slice_nil (P := Yba.prog) w 117 125 none 0 0 0 0 Yba.underlying117
  go_enter Yba.func8, Yba.ntmps8
  go_wp2
  go_ret
  exact ⟨rfl, rfl⟩

set_option maxRecDepth 100000 in
theorem cloneN_some (a : Addr) (n c : Nat) (xs : List Value) (w : World) (hl : xs.length = n) (hx : ∀ j u, xs[j]? = some u → w.cell? (a.add j) = some u) (h1 : ∀ u ∈ xs, u.oneCell' = true) (hn : n ≤ 1048576) (ha : a.block < w.heap.size) :
    Calls Yba.prog 8 #[.slice (some a) n c] w fun e w' => ∃ g cap, e = .returned (.slice (some ⟨g, 0, none⟩) n cap) ∧ w.heap.size ≤ g ∧ g < w'.heap.size ∧ n ≤ cap ∧ (∀ j, w'.frozen? ⟨g, j, none⟩ = false) ∧ (∀ j u, xs[j]? = some u → w'.cell? ⟨g, j, none⟩ = some u) ∧ Below w.heap.size w w' := by
  obtain ⟨i0, hi, hz0, hz1, hz2⟩ := info_parts info125
  have hq := Lib.run_eql_slice_nil (P := Yba.prog) w 117 125 (some a) n c 0 0 Yba.underlying117
  simp only [Option.isNone_some] at hq
  have hown : (w.alloc (.cells #[] 125)).ownsRow w.heap.size 125 1 (.slice (some ⟨w.heap.size, 0, none⟩) 0 0) 0 [] :=
    ⟨rfl, Or.inr ⟨w.heap.size, 0, #[], rfl, Nat.le_refl _, heap_alloc_new w _, Nat.le_refl _, Nat.zero_le _, rfl, rfl⟩⟩
  have HO := hid hown
  have HX := hid (show ∀ j u, xs[j]? = some u → (w.alloc (.cells #[] 125)).cell? (a.add j) = some u from fun j u hj => by
    have hb : (a.add j).block = a.block := by unfold Addr.add; split <;> rfl
    have := hx j u hj
    rw [← this]
    simp only [World.cell?, hb]
    rw [heap_alloc_old _ _ ha])
  clear hown hx
  go_enter Yba.func8, Yba.ntmps8
  go_wp2_with (at_builtin; refine wpList_append_own_at _ rfl (.tmp 5) (.tmp 6) 117 rfl w.heap.size 125 i0 .nilIface 1 16 Yba.underlying117 hi hz0 hz1 hz2 rfl (by decide) _ _ _ rfl HO.out a n c xs rfl (by rw [hl]; omega) HX.out h1 (by unfold maxLen; omega) (by omega) (by simp) ?_)
  intro v' w1 hown' hgrow hnil _
  have hne : v' ≠ .slice none 0 0 := hnil
  obtain ⟨g, cap, rfl, hg1, hg2, hg3, hg4, hcells⟩ := own_some hown' hne
  have HB := hid (show Below w.heap.size w w1 from ((Below.refl _ _).alloc (Nat.le_refl _) _).grown hgrow (by simp) (fun k h => by simp [Value.ownBlock] at h; omega))
  have HC := hid hcells
  have HZ := hid hg4
  clear hown' hgrow hnil hcells hne hg4
  go_wp2
  go_ret
  refine ⟨g, cap, ?_, hg1, hg2, by omega, HZ.out, ?_, HB.out⟩
  · simp
  · intro j u hj
    exact HC.out j u (by simpa using hj)

theorem cloneI_nil (w : World) : Calls Yba.prog 9 #[.slice none 0 0] w fun e w' => e = .returned (.slice none 0 0) ∧ w' = w := by
  have hq := Lib.run_eql_slice_nil (P := Yba.prog) w 25 3 none 0 0 0 0 Yba.underlying25
  go_enter Yba.func9, Yba.ntmps9
  go_wp2
  go_ret
  exact ⟨rfl, rfl⟩

set_option maxRecDepth 100000 in
theorem cloneI_some (a : Addr) (n c : Nat) (xs : List Value) (w : World) (hl : xs.length = n) (hx : ∀ j u, xs[j]? = some u → w.cell? (a.add j) = some u) (h1 : ∀ u ∈ xs, u.oneCell' = true) (hn : n ≤ 1048576) (ha : a.block < w.heap.size) :
    Calls Yba.prog 9 #[.slice (some a) n c] w fun e w' => ∃ g cap, e = .returned (.slice (some ⟨g, 0, none⟩) n cap) ∧ w.heap.size ≤ g ∧ g < w'.heap.size ∧ n ≤ cap ∧ (∀ j, w'.frozen? ⟨g, j, none⟩ = false) ∧ (∀ j u, xs[j]? = some u → w'.cell? ⟨g, j, none⟩ = some u) ∧ Below w.heap.size w w' := by
  obtain ⟨i0, hi, hz0, hz1, hz2⟩ := info_parts info3
  have hq := Lib.run_eql_slice_nil (P := Yba.prog) w 25 3 (some a) n c 0 0 Yba.underlying25
  simp only [Option.isNone_some] at hq
  have hown : (w.alloc (.cells #[] 3)).ownsRow w.heap.size 3 1 (.slice (some ⟨w.heap.size, 0, none⟩) 0 0) 0 [] :=
    ⟨rfl, Or.inr ⟨w.heap.size, 0, #[], rfl, Nat.le_refl _, heap_alloc_new w _, Nat.le_refl _, Nat.zero_le _, rfl, rfl⟩⟩
  have HO := hid hown
  have HX := hid (show ∀ j u, xs[j]? = some u → (w.alloc (.cells #[] 3)).cell? (a.add j) = some u from fun j u hj => by
    have hb : (a.add j).block = a.block := by unfold Addr.add; split <;> rfl
    have := hx j u hj
    rw [← this]
    simp only [World.cell?, hb]
    rw [heap_alloc_old _ _ ha])
  clear hown hx
  go_enter Yba.func9, Yba.ntmps9
  go_wp2_with (at_builtin; refine wpList_append_own_at _ rfl (.tmp 5) (.tmp 6) 25 rfl w.heap.size 3 i0 (.int .i64 0) 1 8 Yba.underlying25 hi hz0 hz1 hz2 rfl (by decide) _ _ _ rfl HO.out a n c xs rfl (by rw [hl]; omega) HX.out h1 (by unfold maxLen; omega) (by omega) (by simp) ?_)
  intro v' w1 hown' hgrow hnil _
  have hne : v' ≠ .slice none 0 0 := hnil
  obtain ⟨g, cap, rfl, hg1, hg2, hg3, hg4, hcells⟩ := own_some hown' hne
  have HB := hid (show Below w.heap.size w w1 from ((Below.refl _ _).alloc (Nat.le_refl _) _).grown hgrow (by simp) (fun k h => by simp [Value.ownBlock] at h; omega))
  have HC := hid hcells
  have HZ := hid hg4
  clear hown' hgrow hnil hcells hne hg4
  go_wp2
  go_ret
  refine ⟨g, cap, ?_, hg1, hg2, by omega, HZ.out, ?_, HB.out⟩
  · simp
  · intro j u hj
    exact HC.out j u (by simpa using hj)
end Go.Proofs.Ybulkedxc
