/-
  LawS6519CWhole: (*byteStringReplacer).Replace at a short string, walked.
-/
import Derived.Test.YbulkedzgReplace
namespace Go.Proofs.Ybulkedzg
open Go.RowKit

/-- how many of the first k bytes are replaced -/
def upTo (s : ByteArray) (k : Nat) : Nat := (s.data.toList.take k).countP spec3
theorem upTo_succ (s : ByteArray) (k : Nat) (h : k < s.size) : upTo s (k + 1) = upTo s k + if spec3 s[k] then 1 else 0 := by
  unfold upTo
  rw [take_snoc s k h, List.countP_append]
  simp [List.countP_cons]
theorem upTo_all (s : ByteArray) : upTo s s.size = tot s := by
  unfold upTo tot
  rw [List.take_of_length_le (by simp)]
theorem upTo_le (s : ByteArray) (k : Nat) : upTo s k ≤ k := by
  unfold upTo
  exact Nat.le_trans List.countP_le_length (List.length_take_le _ _)

set_option maxRecDepth 100000 in
set_option maxHeartbeats 1600000 in
/-- a short string: the bytes are looked at one by one -/
theorem replace_short (s : ByteArray) (B R : Nat) (w : World) (hs : s.size ≤ 1048576) (hl : s.size < 24) (hR : RepAt w B R) :
    Calls Yba.prog 74 #[.pointer (some ⟨R, 0, none⟩), .string s] w fun e w' => e = .returned (.string ⟨(quo s.data.toList).toArray⟩) ∧ Below w.heap.size w w' := by
  obtain ⟨t, ct, ht, _⟩ := hR.tabAt
  have HR : Hid (RepAt w B R) := hR
  clear hR
  have hcp := tot_le s
  have hl' : (s.size : Int) < 24 := by omega
  have hn := neq_nil
  go_enter Yba.func74, Yba.ntmps74
  go_wp2_with fail
  go_loop [5, 6, 10] (fun nz ch i => ∃ k : Nat, k ≤ s.size ∧ i = .int .i64 k ∧ nz = .int .i64 ((s.size : Int) + (upTo s k : Nat)) ∧ ch = .bool (decide (0 < upTo s k))) (fun _ _ i => s.size - (intOf i).toNat)
  case atStart => exact ⟨0, by omega, rfl, by simp [upTo], by simp [upTo]⟩
  case round =>
    obtain ⟨k, hk, rfl, rfl, rfl⟩ := hrel
    by_cases hlt : k < s.size
    · have hu := upTo_le s k
      have hus := upTo_succ s k hlt
      have hbl : ((s[k].toNat : Nat) : Int) < 256 := by have := s[k].toNat_lt; omega
      cases hsp : spec3 s[k] with
      | true =>
        rw [hsp] at hus
        have HU : Hid (upTo s (k + 1) = upTo s k + 1) := hus
        obtain ⟨bb, cc, _, _, e2, _, _⟩ := HR.out.yes s[k] hsp
        clear hus hsp
        go_wp2_with fail
        go_round
        case rel => exact ⟨k + 1, by omega, by go_num, by rw [HU.out]; go_num, by rw [HU.out]; simp⟩
        case measure => simp [intOf]; omega
      | false =>
        rw [hsp] at hus
        have HU : Hid (upTo s (k + 1) = upTo s k) := hus
        have e2 := HR.out.nope s[k] hsp
        clear hus hsp
        go_wp2_with fail
        go_round
        case rel => exact ⟨k + 1, by omega, by go_num, by rw [HU.out], by rw [HU.out]⟩
        case measure => simp [intOf]; omega
    · have hk' : k = s.size := by omega
      subst hk'
      rw [upTo_all s]
      by_cases htz : tot s = 0
      · have hd : decide (0 < tot s) = false := by simp; omega
        have HQ : Hid (quo s.data.toList = s.data.toList) := quo_plain _ htz
        clear htz
        go_wp2_with fail
        go_ret
        exact ⟨by rw [HQ.out]; rfl, Below.refl _ _⟩
      · have hd : decide (0 < tot s) = true := by simp; omega
        obtain ⟨N, hN⟩ : ∃ N, N = s.size + tot s := ⟨_, rfl⟩
        rw [show ((s.size : Int) + ((tot s : Nat) : Int)) = (N : Int) from by omega]
        have HN : Hid (N = s.size + tot s) := hN
        have hN1 : N ≤ 2097152 := by omega
        clear htz hN
        obtain ⟨cs, hcs, hmk⟩ := make_n N (by omega) w
        have hn := neq_nil
        go_wp2_with fail
        go_loopw [13, 14] (fun j i wr => ∃ k : Nat, k ≤ s.size ∧ i = .int .i64 k ∧ j = .int .i64 ((quo (s.data.toList.take k)).length : Nat) ∧ BufAt wr w.heap.size N (quo (s.data.toList.take k)) ∧ Below w.heap.size w wr) (fun _ i _ => s.size - (intOf i).toNat)
        case atStart => exact ⟨0, Nat.zero_le _, rfl, rfl, buf_new w cs N hcs, (Below.refl _ _).alloc (Nat.le_refl _) _⟩
        case round =>
          obtain ⟨k, hk, rfl, rfl, hBu, hBe⟩ := hrel
          have HBu : Hid (BufAt wr w.heap.size N (quo (s.data.toList.take k))) := hBu
          have HBe : Hid (Below w.heap.size w wr) := hBe
          clear hBu hBe
          by_cases hlt : k < s.size
          · have hq1 := fit_round s N k hlt HN.out
            have HQ : Hid (quo (s.data.toList.take (k + 1)) = quo (s.data.toList.take k) ++ rep s[k]) := quo_take s k hlt
            have hbl : ((s[k].toNat : Nat) : Int) < 256 := by have := s[k].toNat_lt; omega
            cases hsp : spec3 s[k] with
            | true =>
              obtain ⟨bb, cc, _, _, e2, e3, e4⟩ := (HR.out.later HBe.out).yes s[k] hsp
              have hv := rep_yes s[k] hsp
              have hl2 : (rep s[k]).length = 2 := by rw [rep_len, hsp]; rfl
              rw [hl2] at hq1
              have HP : Hid (BufAt (wr.drew.setCells w.heap.size (quo (s.data.toList.take k)).length [.int .u8 92, .int .u8 (sub3 s[k])]) w.heap.size N (quo (s.data.toList.take (k + 1)))) := by rw [HQ.out, ← hv]; exact (buf_drew HBu.out).put _ (by rw [hl2]; exact hq1)
              have HL : Hid ((quo (s.data.toList.take (k + 1))).length = (quo (s.data.toList.take k)).length + 2) := by show _ = _; rw [HQ.out, List.length_append, hl2]
              have hcp := copy_two wr.drew w.heap.size N (quo (s.data.toList.take k)).length bb cc (sub3 s[k]) _ (by exact buf_drew HBu.out) hq1 (by exact e3) (by exact e4)
              clear hv hl2 hsp e3 e4 HQ
              generalize (quo (s.data.toList.take k)).length = j at *
              have hj0 : (j : Int) ≤ (N : Int) := by omega
              have hj1 : ¬ N = j := by omega
              go_wp2_with fail
              go_region
              go_wp2_with fail
              exact ⟨⟨k + 1, by omega, by go_num, by rw [HL.out]; go_num, HP.out, below_setCells _ _ _ HBe.out.drew (Nat.le_refl _)⟩, by simp [intOf]; omega⟩
            | false =>
              have e2 := (HR.out.later HBe.out).nope s[k] hsp
              have hv := rep_no s[k] hsp
              have hl2 : (rep s[k]).length = 1 := by rw [rep_len, hsp]; rfl
              rw [hl2] at hq1
              have HP : Hid (BufAt (wr.setCell ⟨w.heap.size, (quo (s.data.toList.take k)).length, none⟩ (.int .u8 (s[k].toNat : Int))) w.heap.size N (quo (s.data.toList.take (k + 1)))) := by rw [HQ.out, hv]; exact HBu.out.put [s[k]] (by simpa using hq1)
              have HL : Hid ((quo (s.data.toList.take (k + 1))).length = (quo (s.data.toList.take k)).length + 1) := by show _ = _; rw [HQ.out, List.length_append, hl2]
              obtain ⟨v0, hv0⟩ := Option.isSome_iff_exists.1 (HBu.out.some (quo (s.data.toList.take k)).length (by omega))
              have hf0 := HBu.out.free (quo (s.data.toList.take k)).length (by omega)
              clear hv hl2 hsp HQ HBu
              generalize (quo (s.data.toList.take k)).length = j at *
              have hj0 : (j : Int) < (N : Int) := by omega
              go_wp2_with fail
              exact ⟨⟨k + 1, by omega, by go_num, by rw [HL.out]; go_num, HP.out, HBe.out.setCell (p := ⟨w.heap.size, j, none⟩) (Nat.le_refl _) _⟩, by simp [intOf]; omega⟩
          · have hk' : k = s.size := by omega
            subst hk'
            have htk : s.data.toList.take s.size = s.data.toList := List.take_of_length_le (by simp)
            rw [htk] at HBu
            have hcv := conv_bytes wr w.heap.size N N (quo s.data.toList) (by rw [quo_len, HN.out]; simp [tot]) HBu.out.holds
            go_wp2_with fail
            go_ret
            exact ⟨rfl, HBe.out⟩
end Go.Proofs.Ybulkedzg
