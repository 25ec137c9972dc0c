/-
  LawS6519CWhole: the law's own model, walked.
-/
import Derived.Test.YbulkedzgPlain
import Derived.WalkSpells
import Derived.WalkLawsBesides
import Derived.OwnWalk
import Derived.Laws.BytesString
import Derived.Laws.MakeOwn
namespace Go.Proofs.Ybulkedzg
open Go.RowKit

theorem info5 : (Yba.prog.info? 5).map (fun i => (i.zero, i.size, i.bytes)) = some (some (.int .u8 0), 1, 1) := by kernel_rfl

theorem fold_push (l : List UInt8) : ∀ s : ByteArray, (l.map fun c => (c.toNat : Int)).foldl (fun r n => r.push (UInt8.ofNat n.toNat)) s = ⟨s.data ++ l.toArray⟩ := by
  induction l with
  | nil => intro s; simp
  | cons c r ih =>
    intro s
    simp only [List.map_cons, List.foldl_cons]
    rw [ih]
    have : UInt8.ofNat (c.toNat : Int).toNat = c := by simp
    rw [this]
    simp [ByteArray.push]

/-- string(b): the bytes -/
theorem conv_bytes (W : World) (g n c : Nat) (l : List UInt8) (hn : l.length = n) (hc : ∀ j v, (vals l)[j]? = some v → W.cell? ⟨g, j, none⟩ = some v) :
    (convert 26 9 (.slice (some ⟨g, 0, none⟩) n c)).run Yba.prog W = .ok (.string ⟨l.toArray⟩) W := by
  rw [run_convert_bytes_string W 26 9 5 _ _ _ Yba.underlying26 Yba.underlying5 Yba.underlying9]
  have e : (l.map fun c => (c.toNat : Int)).map (Value.int .u8) = vals l := by simp [vals]
  have hl := run_loadCells_list (P := Yba.prog) W ⟨g, 0, none⟩ (vals l) (by
    intro j v hj
    rw [show (⟨g, 0, none⟩ : Addr).add j = ⟨g, j, none⟩ from by simp [Addr.add]; omega]
    exact hc j v hj)
  rw [vals_len, hn] at hl
  rw [run_bytesToString W ⟨g, 0, none⟩ n c (l.map fun c => (c.toNat : Int)) (by rw [e]; exact hl), fold_push]
  simp

theorem own_cells {w : World} {B n : Nat} {v : Value} {l : List UInt8} (h : w.ownsRow B 5 1 v n (vals l)) (hn : 0 < n) :
    ∃ g cap, v = .slice (some ⟨g, 0, none⟩) n cap ∧ l.length = n ∧ ∀ j u, (vals l)[j]? = some u → w.cell? ⟨g, j, none⟩ = some u := by
  obtain ⟨h1, h2⟩ := h
  rcases h2 with ⟨_, h3⟩ | ⟨g, cap, cur, rfl, hg, hheap, hnc, _, hsz, htk⟩
  · omega
  · refine ⟨g, cap, rfl, by rw [vals_len] at h1; omega, ?_⟩
    intro j u hj
    have hjn : j < n := by
      rcases Nat.lt_or_ge j n with h | h
      · exact h
      · rw [List.getElem?_eq_none (by rw [h1]; omega)] at hj; cases hj
    rw [← htk, List.getElem?_take_of_lt (by omega)] at hj
    simp only [World.cell?, hheap]
    simpa using hj

/-- what one round does to the relation -/
theorem rel_step (s : ByteArray) (k : Nat) (hlt : k < s.size) {w wr w1 : World} {v v' : Value} {o : Obj} {news : List Value} {N : Nat}
    (hB : Below w.heap.size w wr) (hO : wr.ownsRow w.heap.size 5 1 v (1 + (quo (s.data.toList.take k)).length) (vals (34 :: quo (s.data.toList.take k))))
    (hnews : vals (rep s[k]) = news) (hN : N = 1 + (quo (s.data.toList.take k)).length + (rep s[k]).length)
    (hown' : w1.ownsRow w.heap.size 5 1 v' N (vals (34 :: quo (s.data.toList.take k)) ++ news)) (hgrow : (wr.alloc o).grownBy w1 v.ownBlock) :
    w1.ownsRow w.heap.size 5 1 v' (1 + (quo (s.data.toList.take (k + 1))).length) (vals (34 :: quo (s.data.toList.take (k + 1)))) ∧ Below w.heap.size w w1 := by
  refine ⟨?_, (hB.alloc hB.size _).grown hgrow (by have := hB.size; simp; omega) (own_block hO)⟩
  rw [quo_take s k hlt, List.length_append, ← Nat.add_assoc, ← hN, ← List.cons_append, vals_append, hnews]
  exact hown'

theorem byte_ne (c : UInt8) (d : Nat) (h : ¬ c = UInt8.ofNat d) : ((c.toNat : Int) == (d : Int)) = false := by
  simp only [beq_eq_false_iff_ne, ne_eq]
  intro e
  apply h
  have : c.toNat = d := by omega
  rw [← this]; simp

theorem cell_two_new' (w : World) (x y : Value) (t : TypeId) : ∀ j u, [x, y][j]? = some u → (w.alloc (.cells #[x, y] t)).cell? ((⟨w.heap.size, 0, none⟩ : Addr).add j) = some u := by
  intro j u hj
  match j, hj with
  | 0, hj => simp at hj; subst hj; simp [Addr.add]
  | 1, hj => simp at hj; subst hj; simp [Addr.add]

set_option maxHeartbeats 1600000 in
theorem model_any (s : ByteArray) (w : World) (hs : s.size ≤ 1048576) :
    Calls Yba.prog 5 #[.string s] w fun e w' => e = .returned (.string ⟨(34 :: quo s.data.toList ++ [34]).toArray⟩) ∧ Below w.heap.size w w' := by
  obtain ⟨i0, hi, hz0, hz1, hz2⟩ := info_parts info5
  obtain ⟨W0, hmk, hown0, hgrow0⟩ := run_make_own (P := Yba.prog) w w.heap.size 26 5 i0 (.int .u8 0) 1 Yba.underlying26 hi hz0 hz1 .i64 .i64 (2 * s.size + 2) (by rw [hz2]; omega) (by unfold maxLen; omega) (Nat.le_refl _)
  have ec : ((2 * s.size + 2 : Nat) : Int) = 2 * (s.size : Int) + 2 := by omega
  rw [ec] at hmk
  have HB0 : Hid (Below w.heap.size w W0) := (Below.refl _ _).grown hgrow0 (Nat.le_refl _) (fun k h => by cases h)
  have HO0 : Hid (W0.ownsRow w.heap.size 5 1 (.slice (some ⟨w.heap.size, 0, none⟩) 0 (2 * s.size + 2)) 0 []) := hown0
  clear hown0 hgrow0 ec
  go_enter Yba.func5, Yba.ntmps5
  go_wp2_with (at_builtin; refine wpList_append_own _ rfl (.tmp 11) (.tmp 12) 26 rfl w.heap.size 5 i0 (.int .u8 0) 1 1 Yba.underlying26 hi hz0 hz1 hz2 rfl (by decide) _ _ _ rfl (HO0.out.alloc _) ⟨W0.heap.size, 0, none⟩ 1 1 [.int .u8 34] rfl rfl (cell_one_new _ _ _) (by simp [Value.oneCell']) (by unfold maxLen; omega) (by omega) (by have := HB0.out.size; simp; omega) ?_)
  intro v1 W1 hown1 hgrow1 _
  have HB1 : Hid (Below w.heap.size w W1) := (HB0.out.alloc HB0.out.size _).grown hgrow1 (by have := HB0.out.size; simp; omega) (own_block HO0.out)
  have HO1 : Hid (W1.ownsRow w.heap.size 5 1 v1 1 (vals [34])) := hown1
  clear hown1 hgrow1 HB0 HO0 hmk
  go_wp2_with fail
  go_loopw [3, 4] (fun v i wr => ∃ k : Nat, k ≤ s.size ∧ i = .int .i64 k ∧ wr.ownsRow w.heap.size 5 1 v (1 + (quo (s.data.toList.take k)).length) (vals (34 :: quo (s.data.toList.take k))) ∧ Below w.heap.size w wr) (fun _ i _ => s.size - (intOf i).toNat)
  case atStart => exact ⟨0, Nat.zero_le _, rfl, HO1.out, HB1.out⟩
  case round =>
    obtain ⟨k, hk, rfl, hO, hB⟩ := hrel
    have HO : Hid (wr.ownsRow w.heap.size 5 1 u3 (1 + (quo (s.data.toList.take k)).length) (vals (34 :: quo (s.data.toList.take k)))) := hO
    have HB : Hid (Below w.heap.size w wr) := hB
    have hql := quo_take_le s k hk
    clear hO hB
    by_cases hlt : k < s.size
    · have hbl : s[k].toNat < 256 := s[k].toNat_lt
      by_cases h92 : s[k] = 92
      · have hrep : rep s[k] = [92, 92] := by rw [h92]; rfl
        have b92 : ((s[k].toNat : Int) == 92) = true := by rw [h92]; rfl
        clear h92
        have HR : Hid (vals (rep s[k]) = [.int .u8 92, .int .u8 92]) := by rw [hrep]; rfl
        have HL : Hid ((rep s[k]).length = 2) := by rw [hrep]; rfl
        clear hrep
        go_wp2_with (at_builtin; refine wpList_append_own _ rfl (.tmp 30) (.tmp 31) 26 rfl w.heap.size 5 i0 (.int .u8 0) 1 1 Yba.underlying26 hi hz0 hz1 hz2 rfl (by decide) _ _ _ rfl (HO.out.alloc _) ⟨wr.heap.size, 0, none⟩ 2 2 [.int .u8 92, .int .u8 92] rfl rfl (cell_two_new' _ _ _ _) (by simp [Value.oneCell']) (by unfold maxLen; omega) (by omega) (by have := HB.out.size; simp; omega) ?_)
        intro v' w1 hown' hgrow _
        have R := rel_step s k hlt HB.out HO.out HR.out (by rw [HL.out]) hown' hgrow
        have RO : Hid (w1.ownsRow w.heap.size 5 1 v' (1 + (quo (s.data.toList.take (k + 1))).length) (vals (34 :: quo (s.data.toList.take (k + 1))))) := R.1
        have RB : Hid (Below w.heap.size w w1) := R.2
        clear R hown' hgrow HO HB HR HL
        go_wp2
        go_roundw
        case rel => exact ⟨k + 1, by omega, by go_num, RO.out, RB.out⟩
        case measure => simp [intOf]; omega
      by_cases h34 : s[k] = 34
      · have hrep : rep s[k] = [92, 34] := by rw [h34]; rfl
        have b92 : ((s[k].toNat : Int) == 92) = false := by rw [h34]; rfl
        have b34 : ((s[k].toNat : Int) == 34) = true := by rw [h34]; rfl
        clear h92 h34
        have HR : Hid (vals (rep s[k]) = [.int .u8 92, .int .u8 34]) := by rw [hrep]; rfl
        have HL : Hid ((rep s[k]).length = 2) := by rw [hrep]; rfl
        clear hrep
        go_wp2_with (at_builtin; refine wpList_append_own _ rfl (.tmp 35) (.tmp 36) 26 rfl w.heap.size 5 i0 (.int .u8 0) 1 1 Yba.underlying26 hi hz0 hz1 hz2 rfl (by decide) _ _ _ rfl (HO.out.alloc _) ⟨wr.heap.size, 0, none⟩ 2 2 [.int .u8 92, .int .u8 34] rfl rfl (cell_two_new' _ _ _ _) (by simp [Value.oneCell']) (by unfold maxLen; omega) (by omega) (by have := HB.out.size; simp; omega) ?_)
        intro v' w1 hown' hgrow _
        have R := rel_step s k hlt HB.out HO.out HR.out (by rw [HL.out]) hown' hgrow
        have RO : Hid (w1.ownsRow w.heap.size 5 1 v' (1 + (quo (s.data.toList.take (k + 1))).length) (vals (34 :: quo (s.data.toList.take (k + 1))))) := R.1
        have RB : Hid (Below w.heap.size w w1) := R.2
        clear R hown' hgrow HO HB HR HL
        go_wp2
        go_roundw
        case rel => exact ⟨k + 1, by omega, by go_num, RO.out, RB.out⟩
        case measure => simp [intOf]; omega
      by_cases h10 : s[k] = 10
      · have hrep : rep s[k] = [92, 110] := by rw [h10]; rfl
        have b92 : ((s[k].toNat : Int) == 92) = false := by rw [h10]; rfl
        have b34 : ((s[k].toNat : Int) == 34) = false := by rw [h10]; rfl
        have b10 : ((s[k].toNat : Int) == 10) = true := by rw [h10]; rfl
        clear h92 h34 h10
        have HR : Hid (vals (rep s[k]) = [.int .u8 92, .int .u8 110]) := by rw [hrep]; rfl
        have HL : Hid ((rep s[k]).length = 2) := by rw [hrep]; rfl
        clear hrep
        go_wp2_with (at_builtin; refine wpList_append_own _ rfl (.tmp 40) (.tmp 41) 26 rfl w.heap.size 5 i0 (.int .u8 0) 1 1 Yba.underlying26 hi hz0 hz1 hz2 rfl (by decide) _ _ _ rfl (HO.out.alloc _) ⟨wr.heap.size, 0, none⟩ 2 2 [.int .u8 92, .int .u8 110] rfl rfl (cell_two_new' _ _ _ _) (by simp [Value.oneCell']) (by unfold maxLen; omega) (by omega) (by have := HB.out.size; simp; omega) ?_)
        intro v' w1 hown' hgrow _
        have R := rel_step s k hlt HB.out HO.out HR.out (by rw [HL.out]) hown' hgrow
        have RO : Hid (w1.ownsRow w.heap.size 5 1 v' (1 + (quo (s.data.toList.take (k + 1))).length) (vals (34 :: quo (s.data.toList.take (k + 1))))) := R.1
        have RB : Hid (Below w.heap.size w w1) := R.2
        clear R hown' hgrow HO HB HR HL
        go_wp2
        go_roundw
        case rel => exact ⟨k + 1, by omega, by go_num, RO.out, RB.out⟩
        case measure => simp [intOf]; omega
      · have hrep : rep s[k] = [s[k]] := rep_else _ h92 h34 h10
        have b92 : ((s[k].toNat : Int) == 92) = false := byte_ne _ 92 h92
        have b34 : ((s[k].toNat : Int) == 34) = false := byte_ne _ 34 h34
        have b10 : ((s[k].toNat : Int) == 10) = false := byte_ne _ 10 h10
        clear h92 h34 h10
        have HR : Hid (vals (rep s[k]) = [.int .u8 (s[k].toNat : Int)]) := by rw [hrep]; rfl
        have HL : Hid ((rep s[k]).length = 1) := by rw [hrep]; rfl
        clear hrep
        go_wp2_with (at_builtin; refine wpList_append_own _ rfl (.tmp 24) (.tmp 26) 26 rfl w.heap.size 5 i0 (.int .u8 0) 1 1 Yba.underlying26 hi hz0 hz1 hz2 rfl (by decide) _ _ _ rfl (HO.out.alloc _) ⟨wr.heap.size, 0, none⟩ 1 1 [.int .u8 (s[k].toNat : Int)] rfl rfl (cell_one_new _ _ _) (by simp [Value.oneCell']) (by unfold maxLen; omega) (by omega) (by have := HB.out.size; simp; omega) ?_)
        intro v' w1 hown' hgrow _
        have R := rel_step s k hlt HB.out HO.out HR.out (by rw [HL.out]) hown' hgrow
        have RO : Hid (w1.ownsRow w.heap.size 5 1 v' (1 + (quo (s.data.toList.take (k + 1))).length) (vals (34 :: quo (s.data.toList.take (k + 1))))) := R.1
        have RB : Hid (Below w.heap.size w w1) := R.2
        clear R hown' hgrow HO HB HR HL
        go_wp2
        go_roundw
        case rel => exact ⟨k + 1, by omega, by go_num, RO.out, RB.out⟩
        case measure => simp [intOf]; omega
    · have hk' : k = s.size := by omega
      subst hk'
      have htk : s.data.toList.take s.size = s.data.toList := List.take_of_length_le (by simp)
      rw [htk] at HO hql
      go_wp2_with (at_builtin; refine wpList_append_own _ rfl (.tmp 43) (.tmp 44) 26 rfl w.heap.size 5 i0 (.int .u8 0) 1 1 Yba.underlying26 hi hz0 hz1 hz2 rfl (by decide) _ _ _ rfl (HO.out.alloc _) ⟨wr.heap.size, 0, none⟩ 1 1 [.int .u8 34] rfl rfl (cell_one_new _ _ _) (by simp [Value.oneCell']) (by unfold maxLen; omega) (by omega) (by have := HB.out.size; simp; omega) ?_)
      intro v' w1 hown' hgrow _
      have hB2 : Hid (Below w.heap.size w w1) := (HB.out.alloc HB.out.size _).grown hgrow (by have := HB.out.size; simp; omega) (own_block HO.out)
      rw [show vals (34 :: quo s.data.toList) ++ [Value.int .u8 34] = vals (34 :: quo s.data.toList ++ [34]) from by rw [vals_append]; rfl] at hown'
      obtain ⟨g, cap, rfl, hlen, hcells⟩ := own_cells hown' (by omega)
      have hcv := fun c => conv_bytes w1 g _ c (34 :: quo s.data.toList ++ [34]) hlen hcells
      clear hown' hgrow HO HB hcells
      go_wp2
      go_ret
      exact ⟨rfl, hB2.out⟩
end Go.Proofs.Ybulkedzg
