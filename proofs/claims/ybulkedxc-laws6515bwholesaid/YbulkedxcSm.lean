/-
  LawS6515BWhole: the law's small callees.
-/
import Derived.Test.YbulkedxcAbt2
namespace Go.Proofs.Ybulkedxc
open Go.RowKit
attribute [local simp] setO_size setT_same
variable {A : Role → Nat} {B : Nat} {W : World}

theorem names_any (w : World) : Calls Yba.prog 4 #[] w fun e w' => e = .returned (.agg #[.string (nm 0), .string (nm 1), .string (nm 2), .string (nm 3)]) ∧ Below w.heap.size w w' := by
  go_enter Yba.func4, Yba.ntmps4
  go_wp2
  (try simp only [Exit.inBlock, Exit.then])
  refine bodyPost_ret (results_cell_row rfl _ _ w.heap.size 32 _ (0, 0) _ rfl (heap_alloc_new w _) Yba.underlying32 rfl (by kernel_rfl)) rfl ?_
  exact ⟨rfl, (Below.refl _ _).alloc (Nat.le_refl _) _⟩

theorem park_any (lg : Nat) (num : Int) (w : World) :
    Calls Yba.prog 7 #[ptr lg, .int .i64 num] w fun e w' => e = .returned (.func (.func 14) #[] #[ptr (w.heap.size + 1), ptr w.heap.size]) ∧ w' = (w.alloc (.cells #[ptr lg] 110)).alloc (.cells #[.int .i64 num] 3) := by
  have hmf : ∀ (fn : Fn) (first cap : Array Value) (w : World), (Instr.makeFunc fn first cap).run Yba.prog w = .ok (.func fn first cap) w := fun _ _ _ _ => rfl
  unfold ptr
  go_enter Yba.func7, Yba.ntmps7
  go_wp2
  go_ret
  exact ⟨rfl, rfl⟩

set_option maxRecDepth 100000 in
/-- two slices of ints that hold the same -/
theorem equal_same (a b : Option Addr) (n c d : Nat) (xs : List Int) (w : World) (hl : xs.length = n) (hn : n ≤ 1048576) (ha : ∀ k x, xs[k]? = some x → ∃ p, a = some p ∧ w.cell? (p.add k) = some (.int .i64 x)) (hb : ∀ k x, xs[k]? = some x → ∃ p, b = some p ∧ w.cell? (p.add k) = some (.int .i64 x)) :
    Calls Yba.prog 11 #[.slice a n c, .slice b n d] w fun e w' => e = .returned (.bool true) ∧ ∃ m, w' = w.drewN m := by
  go_enter Yba.func11, Yba.ntmps11
  go_wp2_with fail
  go_loopw [13] (fun i wr => ∃ k m : Nat, k ≤ n ∧ i = .int .i64 k ∧ wr = w.drewN m) (fun i _ => n - (intOf i).toNat)
  case atStart => exact ⟨0, 0, Nat.zero_le _, rfl, rfl⟩
  case round =>
    obtain ⟨k, m, hk, rfl, rfl⟩ := hrel
    by_cases hlt : k < n
    · obtain ⟨x, hx⟩ : ∃ x, xs[k]? = some x := ⟨_, List.getElem?_eq_getElem (by omega)⟩
      obtain ⟨pa, hpa, ca⟩ := ha k x hx
      obtain ⟨pb, hpb, cb⟩ := hb k x hx
      subst hpa
      subst hpb
      have ca' : (w.drewN m).cell? (pa.add k) = some (.int .i64 x) := by simpa using ca
      have cb' : (w.drewN m).cell? (pb.add k) = some (.int .i64 x) := by simpa using cb
      have hki : (k : Int) < (n : Int) := by omega
      go_wp2_with fail
      go_quiet (fail)
      go_wp2
      go_roundw
      case rel => exact ⟨k + 1, m + nq, by omega, by go_num, rfl⟩
      case measure => simp [intOf]; omega
    · have : k = n := by omega
      subst this
      go_wp2
      go_ret
      exact ⟨rfl, m, rfl⟩

/-- the first k entries of a set -/
def entsTo (mk k : Nat) : Array MapEntry := ((((List.range k).filter fun j => mk.testBit j)).zipIdx.map fun p => { key := .string (nm p.1), val := .bool true, born := p.2 }).toArray
theorem entsTo_size (mk k : Nat) : (entsTo mk k).size = ((List.range k).filter fun j => mk.testBit j).length := by simp [entsTo]
theorem entsTo_four (mk : Nat) : entsTo mk 4 = setEnts mk := rfl
theorem entsTo_no (mk k : Nat) (h : mk.testBit k = false) : entsTo mk (k + 1) = entsTo mk k := by
  unfold entsTo
  rw [List.range_succ, List.filter_append]
  simp [h]
theorem entsTo_yes (mk k : Nat) (h : mk.testBit k = true) : entsTo mk (k + 1) = (entsTo mk k).push { key := .string (nm k), val := .bool true, born := (entsTo mk k).size } := by
  unfold entsTo
  rw [List.range_succ, List.filter_append]
  simp [h, List.zipIdx_append]

theorem and15 (mk : Nat) (h : mk < 256) : ((mk : Int) % 16 == 0) = (bitsOf mk).isEmpty := by
  have all : (List.range 256).all (fun mk => ((mk : Int) % 16 == 0) == (bitsOf mk).isEmpty) = true := by kernel_rfl
  have := List.all_eq_true.1 all mk (List.mem_range.2 h)
  simpa using this

theorem set_nil (mk : Nat) (hm : mk < 256) (h : bitsOf mk = []) (ns : Array Value) (w : World) : Calls Yba.prog 6 #[.int .u8 mk, .agg ns] w fun e w' => e = .returned (.map none) ∧ Below w.heap.size w w' := by
  have hq : ((mk : Int) % 16 == 0) = true := by rw [and15 mk hm, h]; rfl
  go_enter Yba.func6, Yba.ntmps6
  go_wp2
  go_ret
  exact ⟨rfl, (Below.refl _ _).alloc (Nat.le_refl _) _⟩
theorem bit_of (mk k : Nat) (hm : mk < 256) (hk : k < 4) : (bits .and .u8 ((mk : Int) / 2 ^ k) 1 == 1) = mk.testBit k := by
  have all : (List.range 256).all (fun mk => (List.range 4).all fun k => (bits .and .u8 ((mk : Int) / 2 ^ k) 1 == 1) == mk.testBit k) = true := by kernel_rfl
  have h1 := List.all_eq_true.1 all mk (List.mem_range.2 hm)
  have := List.all_eq_true.1 h1 k (List.mem_range.2 hk)
  simpa using this
theorem nm_ne (j k : Nat) (hj : j < k) (hk : k < 4) : (nm k == nm j) = false := by
  have all : (List.range 4).all (fun k => (List.range k).all fun j => (nm k == nm j) == false) = true := by kernel_rfl
  have h1 := List.all_eq_true.1 all k (List.mem_range.2 hk)
  have := List.all_eq_true.1 h1 j (List.mem_range.2 hj)
  simpa using this
theorem find_nm_none (k : Nat) (hk : k < 4) : ∀ (l : List (Nat × Nat)) (i : Nat), (∀ p ∈ l, p.1 < k) → Instr.findNow .string (.string (nm k)) (l.map fun p => ({ key := .string (nm p.1), val := .bool true, born := p.2 } : MapEntry)) i = some none
  | [], _, _ => rfl
  | p :: l, i, h => by
    have hne := nm_ne p.1 k (h p (by simp)) hk
    simp only [List.map_cons, Instr.findNow, Instr.sameNow, hne]
    exact find_nm_none k hk l (i + 1) (fun q hq => h q (by simp [hq]))
theorem entsTo_find (mk k : Nat) (hk : k < 4) : Instr.findNow .string (.string (nm k)) (entsTo mk k).toList 0 = some none := by
  unfold entsTo
  refine find_nm_none k hk _ 0 ?_
  rintro ⟨j, b⟩ hp
  rw [List.mem_zipIdx_iff_getElem?] at hp
  have := List.mem_of_getElem? hp
  simp at this
  exact this.1

set_option maxRecDepth 100000 in
theorem set_some (mk : Nat) (hm : mk < 256) (h : bitsOf mk ≠ []) (w : World) : Calls Yba.prog 6 #[.int .u8 mk, .agg #[.string (nm 0), .string (nm 1), .string (nm 2), .string (nm 3)]] w fun e w' => e = .returned (.map (some (w.heap.size + 1))) ∧ Below w.heap.size w w' ∧ w.heap.size + 1 < w'.heap.size ∧ w'.heap[w.heap.size + 1]? = some (.map (setEnts mk) (bitsOf mk).length) := by
  have hq : ((mk : Int) % 16 == 0) = false := by rw [and15 mk hm]; cases hb : bitsOf mk; exact absurd hb h; rfl
  have hmm := @run_makeMap Yba.prog
  go_enter Yba.func6, Yba.ntmps6
  go_wp2_with fail
  go_loopw [6] (fun i wr => ∃ k : Nat, k ≤ 4 ∧ i = .int .i64 k ∧ wr.heap.size = w.heap.size + 2 ∧ Below w.heap.size w wr ∧ wr.heap[w.heap.size]? = some (.cells #[.string (nm 0), .string (nm 1), .string (nm 2), .string (nm 3)] 32 (0, 0)) ∧ wr.heap[w.heap.size + 1]? = some (.map (entsTo mk k) (entsTo mk k).size)) (fun i _ => 4 - (intOf i).toNat)
  case atStart =>
    refine ⟨0, Nat.zero_le _, rfl, by simp, ((Below.refl _ _).alloc (Nat.le_refl _) _).alloc (by simp) _, ?_, ?_⟩
    · rw [heap_alloc_old _ _ (by simp)]; exact heap_alloc_new w _
    · exact heap_alloc2_new w _ _
  case round =>
    obtain ⟨k, hk, rfl, hsz, hB, hns, hmp⟩ := hrel
    have HB := hid hB
    have HN := hid hns
    have HP := hid hmp
    clear hB hns hmp
    by_cases hlt : k < 4
    · have hki : (k : Int) < 4 := by omega
      have hbit := bit_of mk k hm hlt
      cases hbt : mk.testBit k
      · rw [hbt] at hbit
        go_wp2
        go_roundw
        case rel => exact ⟨k + 1, by omega, by go_num, hsz, HB.out, HN.out, by rw [entsTo_no mk k hbt]; exact HP.out⟩
        case measure => simp [intOf]; omega
      · rw [hbt] at hbit
        have hc : wr.cell? ⟨w.heap.size, k, none⟩ = some (.string (nm k)) := by
          have : (#[.string (nm 0), .string (nm 1), .string (nm 2), .string (nm 3)] : Array Value)[k]? = some (.string (nm k)) := by
            match k, hlt with
            | 0, _ => rfl
            | 1, _ => rfl
            | 2, _ => rfl
            | 3, _ => rfl
          simp [World.cell?, HN.out, this]
        have hup := run_update_new (P := Yba.prog) wr (t := 100) (d := .string) Yba.underlying100 Yba.underlying9 HP.out (key := .string (nm k)) (v := .bool true) trivial (entsTo_find mk k hlt)
        go_wp2
        go_roundw
        case rel =>
          refine ⟨k + 1, by omega, by go_num, by simpa using hsz, ?_, ?_, ?_⟩
          · have hb := HB.out
            exact ⟨hb.os, hb.tape, hb.output, by simpa using hb.size, fun j hj => (setO_other _ _ _ _ (by omega)).trans (hb.block j hj)⟩
          · rw [setO_other _ _ _ _ (by omega)]; exact HN.out
          · rw [setO_heap _ _ _ (by omega), entsTo_yes mk k hbt]
            simp
        case measure => simp [intOf]; omega
    · have : k = 4 := by omega
      subst this
      go_wp2
      go_ret
      refine ⟨rfl, HB.out, by omega, ?_⟩
      rw [HP.out, entsTo_size, entsTo_four]
      rfl
end Go.Proofs.Ybulkedxc
