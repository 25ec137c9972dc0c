/-
  LawS6515BWhole: keptNotes.
-/
import Derived.Test.YbulkedxcCas
namespace Go.Proofs.Ybulkedxc
open Go.RowKit

/-- a note of the event: a pointer to an item's value, or the value -/
structure NoteD where
  p : Nat → Bool
  it : Nat → ByteArray
  vl : Nat → Int
  ib : Nat → Nat
def plainV (N : NoteD) (k : Nat) : Value := .iface 121 (.agg #[.string (N.it k), .int .i64 (N.vl k)])
def noteV (N : NoteD) (k : Nat) : Value := cond (N.p k) (.iface 122 (ptr (N.ib k))) (plainV N k)
/-- the notes lie in block nb -/
structure NotesAt (W : World) (N : NoteD) (nb n : Nat) : Prop where
  lt : nb < W.heap.size
  cell : ∀ k, k < n → W.cell? ⟨nb, k, none⟩ = some (noteV N k)
  ptr : ∀ k, k < n → N.p k = true → N.ib k < W.heap.size ∧ W.cell? ⟨N.ib k, 0, none⟩ = some (.string (N.it k)) ∧ W.cell? ⟨N.ib k, 1, none⟩ = some (.int .i64 (N.vl k))

theorem assert_ptr (a : Addr) (w : World) : (Instr.typeAssert (.iface 122 (.pointer (some a))) 125 162 true).run Yba.prog w = .ok (.tuple #[.iface 122 (.pointer (some a)), .bool true]) w := by kernel_rfl
theorem least_cons (x : String) (l : List String) : ∃ m, Instr.least (x :: l) = some m := ⟨_, rfl⟩
theorem missing_some (want : Array (String × TypeId)) (got : Array Method) (h : (want.toList.filter fun p => !got.any fun m => m.name == p.1 && m.sig == p.2).isEmpty = false) : ∃ m, Instr.missingMethod want got = some m := by
  unfold Instr.missingMethod
  have hne : ((want.toList.filter fun p => !got.any fun m => m.name == p.1 && m.sig == p.2).map (·.1)) ≠ [] := by
    intro e
    rw [List.map_eq_nil_iff] at e
    rw [e] at h
    simp at h
  simp only [List.partition_eq_filter_filter]
  generalize ((want.toList.filter fun p => !got.any fun m => m.name == p.1 && m.sig == p.2).map (·.1)) = L at hne
  cases hX : L.filter (not ∘ fun x => x.contains '.') with
  | cons x xs =>
    obtain ⟨m, hm⟩ := least_cons x xs
    exact ⟨m, by rw [hm]; rfl⟩
  | nil =>
    cases hU : L.filter (fun x => x.contains '.') with
    | cons x xs =>
      obtain ⟨m, hm⟩ := least_cons ((x.splitOn ".").getLastD x) (xs.map fun id => (id.splitOn ".").getLastD id)
      exact ⟨m, hm⟩
    | nil =>
      exfalso
      cases L with
      | nil => exact hne rfl
      | cons y ys =>
        rw [List.filter_cons] at hX hU
        cases hy : y.contains '.'
        · rw [if_pos (by show (!(y.contains '.')) = true; rw [hy]; rfl)] at hX
          cases hX
        · rw [if_pos hy] at hU
          cases hU
theorem missing_plain (want : Array (String × TypeId)) (h : Yba.prog.underlying 162 = some (.interface want)) : ∃ m, Instr.missingMethod want Yba.t121.methods = some m := by
  apply missing_some
  rw [Yba.underlying162] at h
  cases h
  kernel_rfl
theorem info121 : Yba.prog.info? 121 = some Yba.t121 := by kernel_rfl
theorem assert_plain (v : Value) (w : World) : (Instr.typeAssert (.iface 121 v) 125 162 true).run Yba.prog w = .ok (.tuple #[.nilIface, .bool false]) w := by
  obtain ⟨m, hm⟩ := missing_plain _ Yba.underlying162
  have hz : (zeroValue 162).run Yba.prog w = .ok .nilIface w := by kernel_rfl
  simp [Instr.typeAssert, run_underlying Yba.underlying162, typeInfo, info121, hm, hz]
theorem method_value (s : String) (hs : ((Yba.prog.info? 122).bind (fun i => i.methods[1]?)).map (·.name) = some s) (a : Addr) (w : World) : (method 315 122 (.pointer (some a)) s).run Yba.prog w = .ok (62, .pointer (some a)) w := by
  have h0 : (method 315 122 (.pointer (some a)) ((((Yba.prog.info? 122).bind (fun i => i.methods[1]?)).map (·.name)).getD "")).run Yba.prog w = .ok (62, .pointer (some a)) w := by kernel_rfl
  rw [hs] at h0
  exact h0

theorem kept_none (a : Option Addr) (c : Nat) (w : World) : Calls Yba.prog 15 #[.slice a 0 c] w fun e w' => e = .returned (.slice a 0 c) ∧ w' = w := by
  go_enter Yba.func15, Yba.ntmps15
  go_wp2
  go_ret
  exact ⟨rfl, rfl⟩

set_option maxRecDepth 100000 in
set_option maxHeartbeats 1600000 in
theorem kept_some (N : NoteD) (nb n c : Nat) (w : World) (hN : NotesAt w N nb n) (h0 : 0 < n) (hn : n ≤ 65536) :
    Calls Yba.prog 15 #[.slice (some ⟨nb, 0, none⟩) n c] w fun e w' => ∃ g cap, e = .returned (.slice (some ⟨g, 0, none⟩) n cap) ∧ w.heap.size ≤ g ∧ g < w'.heap.size ∧ n ≤ cap ∧ (∀ k, k < n → w'.cell? ⟨g, k, none⟩ = some (plainV N k) ∧ w'.frozen? ⟨g, k, none⟩ = false) ∧ Below w.heap.size w w' := by
  have hcl := cloneN_some ⟨nb, 0, none⟩ n c ((List.range n).map (noteV N)) w (by simp) (by
    intro j u hj
    have hjn : j < n := by
      rcases Nat.lt_or_ge j n with h | h
      · exact h
      · rw [List.getElem?_eq_none (by simpa using h)] at hj; cases hj
    rw [List.getElem?_map, List.getElem?_range hjn] at hj
    simp at hj
    subst hj
    have e : (⟨nb, 0, none⟩ : Addr).add j = ⟨nb, j, none⟩ := by simp [Addr.add]; omega
    rw [e]
    exact hN.cell j hjn) (by
    intro u hu
    simp at hu
    obtain ⟨k, _, rfl⟩ := hu
    unfold noteV plainV
    cases N.p k <;> rfl) (by omega) hN.lt
  have HCL := hid hcl
  have HN := hid hN
  have a1 := assert_ptr
  have a2 := assert_plain
  have hn0 : ((n : Int) == 0) = false := by simp; omega
  clear hcl hN
  go_enter Yba.func15, Yba.ntmps15
  go_wp2_with (go_at_call 8; refine HCL.out.mono ?_; rintro e w1 ⟨g, cap, rfl, hg1, hg2, hg3, hg4, hcells, hB⟩)
  have HC : Hid (∀ k, k < n → w1.cell? ⟨g, k, none⟩ = some (noteV N k)) := fun k hk => hcells k _ (by rw [List.getElem?_map, List.getElem?_range hk]; rfl)
  have HB := hid hB
  have HZ := hid hg4
  clear hcells hB hg4 HCL
  go_loopw [16] (fun i wr => ∃ k : Nat, k ≤ n ∧ i = .int .i64 k ∧ wr.heap.size = w1.heap.size ∧ (∀ j, j < n → wr.cell? ⟨g, j, none⟩ = some (cond (decide (j < k)) (plainV N j) (noteV N j)) ∧ wr.frozen? ⟨g, j, none⟩ = false) ∧ Below w.heap.size w wr) (fun i _ => n - (intOf i).toNat)
  case atStart => exact ⟨0, Nat.zero_le _, rfl, rfl, fun j hj => ⟨by simpa using HC.out j hj, HZ.out j⟩, HB.out⟩
  case round =>
    obtain ⟨k, hk, rfl, hsz, hcell, hB⟩ := hrel
    have HK := hid hcell
    have HBk := hid hB
    clear hcell hB
    by_cases hlt : k < n
    · have c0 := (HK.out k hlt).1
      have f0 := (HK.out k hlt).2
      simp only [Nat.lt_irrefl, decide_false, cond_false] at c0
      cases hp : N.p k
      · rw [noteV, hp] at c0
        simp only [cond_false, plainV] at c0
        go_wp2
        go_roundw
        case rel =>
          refine ⟨k + 1, by omega, by go_num, hsz, ?_, HBk.out⟩
          intro j hj
          refine ⟨?_, (HK.out j hj).2⟩
          rw [(HK.out j hj).1]
          by_cases e : j = k
          · subst e
            simp [noteV, hp]
          · have : decide (j < k + 1) = decide (j < k) := by simp; omega
            rw [this]
        case measure => simp [intOf]; omega
      · rw [noteV, hp] at c0
        simp only [cond_true, ptr] at c0
        have hpt := HN.out.ptr k hlt hp
        have p0 := (HBk.out.cell (p := ⟨N.ib k, 0, none⟩) hpt.1).trans hpt.2.1
        have p1 := (HBk.out.cell (p := ⟨N.ib k, 1, none⟩) hpt.1).trans hpt.2.2
        go_wp2_with (first | (rw [method_value]; rotate_left; kernel_rfl) | (go_at_call 62; refine (value_any (N.ib k) (N.it k) (N.vl k) _ p0 p1).mono ?_; rintro e w' ⟨rfl, rfl⟩))
        go_roundw
        case rel =>
          refine ⟨k + 1, by omega, by go_num, by simpa using hsz, ?_, ?_⟩
          · intro j hj
            refine ⟨?_, by simpa using (HK.out j hj).2⟩
            by_cases e : j = k
            · subst e
              rw [World.cell?_setCell_same _ _ _ c0]
              simp [plainV]
            · rw [World.cell?_setCell_other _ _ _ _ (by simp), (HK.out j hj).1]
              have : decide (j < k + 1) = decide (j < k) := by simp; omega
              rw [this]
          · have hb := HBk.out
            exact ⟨hb.os, hb.tape, hb.output, by simpa using hb.size, fun b hlb => (heap_setCell_ne _ (by omega)).trans (hb.block b hlb)⟩
        case measure => simp [intOf]; omega
    · have : k = n := by omega
      subst this
      go_wp2
      go_ret
      refine ⟨g, cap, rfl, hg1, by omega, hg3, ?_, HBk.out⟩
      intro j hj
      have := HK.out j hj
      simpa [hj] using this
end Go.Proofs.Ybulkedxc
