/-
  LawS6519CWhole: (*byteStringReplacer).Replace, walked.
-/
import Derived.Test.YbulkedzgRep
namespace Go.Proofs.Ybulkedzg
open Go.RowKit

theorem fit_round (s : ByteArray) (N k : Nat) (h : k < s.size) (hN : N = s.size + tot s) : (quo (s.data.toList.take k)).length + (rep s[k]).length ≤ N := by
  have e := quo_take s k h
  have h1 : (quo s.data.toList).length = N := by rw [quo_len, hN]; simp [tot]
  have h2 : quo s.data.toList = quo (s.data.toList.take (k + 1)) ++ quo (s.data.toList.drop (k + 1)) := by
    rw [quo, quo, quo, ← List.flatMap_append, List.take_append_drop]
  have h3 := congrArg List.length h2
  rw [List.length_append, e, List.length_append] at h3
  omega
theorem buf_drew {W : World} {g N : Nat} {l : List UInt8} (h : BufAt W g N l) : BufAt W.drew g N l := ⟨h.some, h.free, h.holds⟩

set_option maxRecDepth 100000 in
set_option maxHeartbeats 1600000 in
/-- a long string: the bytes are counted -/
theorem replace_long (s : ByteArray) (B R : Nat) (w : World) (hs : s.size ≤ 1048576) (hl : 24 ≤ s.size) (hR : RepAt w B R) :
    Calls Yba.prog 74 #[.pointer (some ⟨R, 0, none⟩), .string s] w fun e w' => e = .returned (.string ⟨(quo s.data.toList).toArray⟩) ∧ Below w.heap.size w w' := by
  obtain ⟨t, ct, ht, hts⟩ := hR.tabAt
  have HR : Hid (RepAt w B R) := hR
  have HT : Hid (∀ k, k < 3 → w.cell? ⟨t, k, none⟩ = some (.string ⟨#[tb k]⟩)) := hts
  clear hR hts
  have hcp := tot_le s
  have hl' : (24 : Int) ≤ (s.size : Int) := by omega
  go_enter Yba.func74, Yba.ntmps74
  go_wp2_with fail
  go_loopw [5, 6, 32] (fun nz ch i wr => ∃ k : Nat, k ≤ 3 ∧ i = .int .i64 k ∧ nz = .int .i64 ((s.size : Int) + (cnt s k : Nat)) ∧ ch = .bool (decide (0 < cnt s k)) ∧ ∃ m, wr = w.drewN m) (fun _ _ i _ => 3 - (intOf i).toNat)
  case atStart => exact ⟨0, by omega, rfl, by simp [cnt], by simp [cnt], 0, rfl⟩
  case round =>
    obtain ⟨k, hk, rfl, rfl, rfl, m, rfl⟩ := hrel
    by_cases hlt : k < 3
    · have e1 := HT.out k hlt
      have hcn := cnt_le s k hk
      have hcn' := cnt_le s (k + 1) (by omega)
      obtain ⟨bb, cc, _, _, e2, _, _⟩ := HR.out.yes (tb k) (tb_spec k)
      have hk3 : (k : Int) < 3 := by omega
      by_cases hz : ctB s (tb k) = 0
      · have hz' : (((ctB s (tb k) : Nat) : Int) != 0) = false := by rw [hz]; rfl
        have HC : Hid (cnt s (k + 1) = cnt s k) := by show cnt s k + _ = _; rw [hz]; rfl
        clear hz
        go_wp2_with (go_at_call 76; refine (count_any s (tb k) _).mono ?_; rintro e w' ⟨rfl, rfl⟩)
        go_roundw
        case rel => exact ⟨k + 1, by omega, by go_num, by rw [HC.out], by rw [HC.out], m, rfl⟩
        case measure => simp [intOf]; omega
      · have hz' : (((ctB s (tb k) : Nat) : Int) != 0) = true := by rw [bne_iff_ne]; omega
        have HC : Hid (cnt s (k + 1) = cnt s k + ctB s (tb k)) := rfl
        have hcs : cnt s k + ctB s (tb k) ≤ tot s := hcn'
        have hcz : 0 < ctB s (tb k) := by omega
        have hix : (ByteArray.mk #[tb k])[0]'(show 0 < 1 from by decide) = tb k := rfl
        have hix1 : ((tb k).toNat : Int) < 256 := by have := (tb k).toNat_lt; omega
        have hix0 : (0 : Int) ≤ ((tb k).toNat : Int) := by omega
        clear hz
        go_wp2_with (go_at_call 76; refine (count_any s (tb k) _).mono ?_; rintro e w' ⟨rfl, rfl⟩)
        go_quiet (fail)
        go_wp2_with fail
        exact ⟨⟨k + 1, by omega, by go_num, by rw [HC.out]; go_num, by rw [HC.out]; simp; omega, _, rfl⟩, by simp [intOf]; omega⟩
    · have : k = 3 := by omega
      subst this
      rw [cnt3 s]
      generalize hW0 : w.drewN m = W0
      have HR0 : Hid (RepAt W0 B R) := by rw [← hW0]; exact HR.out.later (below_drewN (Below.refl _ _) _)
      have HB0 : Hid (Below w.heap.size w W0) := by rw [← hW0]; exact below_drewN (Below.refl _ _) _
      clear hW0 HR HT ht
      by_cases htz : tot s = 0
      · have hd : decide (0 < tot s) = false := by simp; omega
        have HQ : Hid (quo s.data.toList = s.data.toList) := quo_plain _ htz
        clear htz
        go_wp2_with fail
        go_ret
        exact ⟨by rw [HQ.out]; rfl, HB0.out⟩
      · have hd : decide (0 < tot s) = true := by simp; omega
        obtain ⟨N, hN⟩ : ∃ N, N = s.size + tot s := ⟨_, rfl⟩
        rw [show ((s.size : Int) + ((tot s : Nat) : Int)) = (N : Int) from by omega]
        have HN : Hid (N = s.size + tot s) := hN
        have hN1 : N ≤ 2097152 := by omega
        clear htz hN
        obtain ⟨cs, hcs, hmk⟩ := make_n N (by omega) W0
        have hn := neq_nil
        go_wp2_with fail
        go_loopw [13, 14] (fun j i wr => ∃ k : Nat, k ≤ s.size ∧ i = .int .i64 k ∧ j = .int .i64 ((quo (s.data.toList.take k)).length : Nat) ∧ BufAt wr W0.heap.size N (quo (s.data.toList.take k)) ∧ Below W0.heap.size W0 wr) (fun _ i _ => s.size - (intOf i).toNat)
        case atStart => exact ⟨0, Nat.zero_le _, rfl, rfl, buf_new W0 cs N hcs, (Below.refl _ _).alloc (Nat.le_refl _) _⟩
        case round =>
          obtain ⟨k, hk, rfl, rfl, hBu, hBe⟩ := hrel
          have HBu : Hid (BufAt wr W0.heap.size N (quo (s.data.toList.take k))) := hBu
          have HBe : Hid (Below W0.heap.size W0 wr) := hBe
          clear hBu hBe
          by_cases hlt : k < s.size
          · have hq1 := fit_round s N k hlt HN.out
            have HQ : Hid (quo (s.data.toList.take (k + 1)) = quo (s.data.toList.take k) ++ rep s[k]) := quo_take s k hlt
            have hbl : ((s[k].toNat : Nat) : Int) < 256 := by have := s[k].toNat_lt; omega
            cases hsp : spec3 s[k] with
            | true =>
              obtain ⟨bb, cc, _, _, e2, e3, e4⟩ := (HR0.out.later HBe.out).yes s[k] hsp
              have hv := rep_yes s[k] hsp
              have hl2 : (rep s[k]).length = 2 := by rw [rep_len, hsp]; rfl
              rw [hl2] at hq1
              have HP : Hid (BufAt (wr.drew.setCells W0.heap.size (quo (s.data.toList.take k)).length [.int .u8 92, .int .u8 (sub3 s[k])]) W0.heap.size N (quo (s.data.toList.take (k + 1)))) := by rw [HQ.out, ← hv]; exact (buf_drew HBu.out).put _ (by rw [hl2]; exact hq1)
              have HL : Hid ((quo (s.data.toList.take (k + 1))).length = (quo (s.data.toList.take k)).length + 2) := by show _ = _; rw [HQ.out, List.length_append, hl2]
              have hcp := copy_two wr.drew W0.heap.size N (quo (s.data.toList.take k)).length bb cc (sub3 s[k]) _ (by exact buf_drew HBu.out) hq1 (by exact e3) (by exact e4)
              clear hv hl2 hsp e3 e4 HQ
              generalize (quo (s.data.toList.take k)).length = j at *
              have hj0 : (j : Int) ≤ (N : Int) := by omega
              have hj1 : ¬ N = j := by omega
              go_wp2_with fail
              go_region
              go_wp2_with fail
              exact ⟨⟨k + 1, by omega, by go_num, by rw [HL.out]; go_num, HP.out, below_setCells _ _ _ HBe.out.drew (Nat.le_refl _)⟩, by simp [intOf]; omega⟩
            | false =>
              have e2 := (HR0.out.later HBe.out).nope s[k] hsp
              have hv := rep_no s[k] hsp
              have hl2 : (rep s[k]).length = 1 := by rw [rep_len, hsp]; rfl
              rw [hl2] at hq1
              have HP : Hid (BufAt (wr.setCell ⟨W0.heap.size, (quo (s.data.toList.take k)).length, none⟩ (.int .u8 (s[k].toNat : Int))) W0.heap.size N (quo (s.data.toList.take (k + 1)))) := by rw [HQ.out, hv]; exact HBu.out.put [s[k]] (by simpa using hq1)
              have HL : Hid ((quo (s.data.toList.take (k + 1))).length = (quo (s.data.toList.take k)).length + 1) := by show _ = _; rw [HQ.out, List.length_append, hl2]
              obtain ⟨v0, hv0⟩ := Option.isSome_iff_exists.1 (HBu.out.some (quo (s.data.toList.take k)).length (by omega))
              have hf0 := HBu.out.free (quo (s.data.toList.take k)).length (by omega)
              clear hv hl2 hsp HQ HBu
              generalize (quo (s.data.toList.take k)).length = j at *
              have hj0 : (j : Int) < (N : Int) := by omega
              go_wp2_with fail
              exact ⟨⟨k + 1, by omega, by go_num, by rw [HL.out]; go_num, HP.out, HBe.out.setCell (p := ⟨W0.heap.size, j, none⟩) (Nat.le_refl _) _⟩, by simp [intOf]; omega⟩
          · have hk' : k = s.size := by omega
            subst hk'
            have htk : s.data.toList.take s.size = s.data.toList := List.take_of_length_le (by simp)
            rw [htk] at HBu
            have hcv := conv_bytes wr W0.heap.size N N (quo s.data.toList) (by rw [quo_len, HN.out]; simp [tot]) HBu.out.holds
            go_wp2_with fail
            go_ret
            exact ⟨rfl, HB0.out.trans (HBe.out.mono HB0.out.size)⟩
end Go.Proofs.Ybulkedzg
