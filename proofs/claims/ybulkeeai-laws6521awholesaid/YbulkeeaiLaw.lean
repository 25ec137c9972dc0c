/-
  LawS6521AWhole: the walk of the law itself, at each of the four sizes.
-/
import Derived.Test.YbulkeeaiPlain
import Derived.RowKit3
namespace Go.Proofs.Ybulkeeai
open Go.RowKit

theorem grown_drewN {W w' : World} (h : Grown W w') (n : Nat) : Grown W (w'.drewN n) := h

theorem q24 (W : World) : (binOp .eql 24 (.slice none 0 0) (.slice none 0 0)).run Yba.prog W = .ok (.bool true) W := by kernel_rfl
theorem q25 (W : World) : (binOp .eql 25 (.slice none 0 0) (.slice none 0 0)).run Yba.prog W = .ok (.bool true) W := by kernel_rfl
theorem q26 (W : World) : (binOp .eql 26 (.slice none 0 0) (.slice none 0 0)).run Yba.prog W = .ok (.bool true) W := by kernel_rfl

set_option maxHeartbeats 800000 in
theorem law1 (s : ByteArray) (a1 a2 : Int) (hs : s.size ≤ 1048576) (g0 : 0 ≤ a1) (g1 : a1 ≤ 18446744073709551615) (g2 : 0 ≤ a2) (g3 : a2 ≤ 255) (hk : a2 % 4 = 0) (hz : 1 ≤ s.size) (w : World) :
    Calls Yba.prog 3 #[.string s, .int .u64 a1, .int .u8 a2] w fun e w' => e = .returned (.bool true) ∧ Grown w w' := by
  obtain ⟨p, hp, hle⟩ := pos_ok a1 s.size 1 hz hs
  have HP : Hid (wrap64 (a1 % (s.size : Int)) = (p : Int)) := by rw [show ((s.size : Int) - ((1 : Nat) : Int) + 1) = (s.size : Int) from by omega] at hp; exact hp
  clear hp
  have hend := want_end s p 1
  have h24 := q24
  have h25 := q25
  have h26 := q26
  go_enter Yba.func3, Yba.ntmps3
  go_wp2_with fail
  rw [HP.out]
  refine (arg_any s p w.heap.size 1 24 _ hs (by omega) hle (by simp) (by simp) (by simp)).mono ?_
  rintro e w' ⟨rfl, n, rfl⟩
  go_wp2
  go_loop [13, 14] (fun x i => ∃ k : Nat, k ≤ 1 ∧ i = .int .i64 k ∧ x = .int .u64 (wantV s p 1 k)) (fun _ i => 1 - (intOf i).toNat)
  case atStart => exact ⟨0, by omega, rfl, by simp [wantV, beV]⟩
  case round =>
    obtain ⟨k, hk4, rfl, rfl⟩ := hrel
    by_cases hlt : k < 1
    · have hi : (p : Int) + k < s.size := by omega
      have hi' : p + k < s.size := by omega
      have HS : Hid (bits .or .u64 (wantV s p 1 k) (IntKind.u64.wrap (IntKind.u64.wrap (s[p + k].toNat : Int) * 2 ^ (8 * -(k : Int)).toNat)) = wantV s p 1 (k + 1)) := by
        rw [show (8 * -(k : Int)).toNat = 8 * (0 - k) from by omega]
        exact want_step s p 1 k (0 - k) (by omega) (by omega) hi'
      go_wp2
      go_round
      case rel => exact ⟨k + 1, by omega, by go_num, by rw [← HS.out]⟩
      case measure => simp [intOf]; omega
    · have : k = 1 := by omega
      subst this
      go_wp2
      go_ret
      exact ⟨rfl, (grown_drewN ((Grown.refl _).alloc _ _) _).setCell (Nat.le_refl _) _⟩

set_option maxHeartbeats 800000 in
theorem law2 (s : ByteArray) (a1 a2 : Int) (hs : s.size ≤ 1048576) (g0 : 0 ≤ a1) (g1 : a1 ≤ 18446744073709551615) (g2 : 0 ≤ a2) (g3 : a2 ≤ 255) (hk : a2 % 4 = 1) (hz : 2 ≤ s.size) (w : World) :
    Calls Yba.prog 3 #[.string s, .int .u64 a1, .int .u8 a2] w fun e w' => e = .returned (.bool true) ∧ Grown w w' := by
  obtain ⟨p, hp, hle⟩ := pos_ok a1 s.size 2 hz hs
  have HP : Hid (wrap64 (a1 % ((s.size : Int) - 2 + 1)) = (p : Int)) := hp
  clear hp
  have hend := want_end s p 2
  have h24 := q24
  have h25 := q25
  have h26 := q26
  go_enter Yba.func3, Yba.ntmps3
  go_wp2_with fail
  rw [HP.out]
  refine (arg_any s p w.heap.size 2 25 _ hs (by omega) hle (by simp) (by simp) (by simp)).mono ?_
  rintro e w' ⟨rfl, n, rfl⟩
  go_wp2
  go_loop [13, 14] (fun x i => ∃ k : Nat, k ≤ 2 ∧ i = .int .i64 k ∧ x = .int .u64 (wantV s p 2 k)) (fun _ i => 2 - (intOf i).toNat)
  case atStart => exact ⟨0, by omega, rfl, by simp [wantV, beV]⟩
  case round =>
    obtain ⟨k, hk4, rfl, rfl⟩ := hrel
    by_cases hlt : k < 2
    · have hi : (p : Int) + k < s.size := by omega
      have hi' : p + k < s.size := by omega
      have HS : Hid (bits .or .u64 (wantV s p 2 k) (IntKind.u64.wrap (IntKind.u64.wrap (s[p + k].toNat : Int) * 2 ^ (8 * (1 - k)))) = wantV s p 2 (k + 1)) := want_step s p 2 k (1 - k) (by omega) (by omega) hi'
      go_wp2
      go_round
      case rel => exact ⟨k + 1, by omega, by go_num, by rw [← HS.out]⟩
      case measure => simp [intOf]; omega
    · have : k = 2 := by omega
      subst this
      go_wp2
      go_ret
      exact ⟨rfl, (grown_drewN ((Grown.refl _).alloc _ _) _).setCell (Nat.le_refl _) _⟩

set_option maxHeartbeats 800000 in
theorem law4 (s : ByteArray) (a1 a2 : Int) (hs : s.size ≤ 1048576) (g0 : 0 ≤ a1) (g1 : a1 ≤ 18446744073709551615) (g2 : 0 ≤ a2) (g3 : a2 ≤ 255) (hk : a2 % 4 = 2) (hz : 4 ≤ s.size) (w : World) :
    Calls Yba.prog 3 #[.string s, .int .u64 a1, .int .u8 a2] w fun e w' => e = .returned (.bool true) ∧ Grown w w' := by
  obtain ⟨p, hp, hle⟩ := pos_ok a1 s.size 4 hz hs
  have HP : Hid (wrap64 (a1 % ((s.size : Int) - 4 + 1)) = (p : Int)) := hp
  clear hp
  have hend := want_end s p 4
  have h24 := q24
  have h25 := q25
  have h26 := q26
  go_enter Yba.func3, Yba.ntmps3
  go_wp2_with fail
  rw [HP.out]
  refine (arg_any s p w.heap.size 4 26 _ hs (by omega) hle (by simp) (by simp) (by simp)).mono ?_
  rintro e w' ⟨rfl, n, rfl⟩
  go_wp2
  go_loop [13, 14] (fun x i => ∃ k : Nat, k ≤ 4 ∧ i = .int .i64 k ∧ x = .int .u64 (wantV s p 4 k)) (fun _ i => 4 - (intOf i).toNat)
  case atStart => exact ⟨0, by omega, rfl, by simp [wantV, beV]⟩
  case round =>
    obtain ⟨k, hk4, rfl, rfl⟩ := hrel
    by_cases hlt : k < 4
    · have hi : (p : Int) + k < s.size := by omega
      have hi' : p + k < s.size := by omega
      have HS : Hid (bits .or .u64 (wantV s p 4 k) (IntKind.u64.wrap (IntKind.u64.wrap (s[p + k].toNat : Int) * 2 ^ (8 * (3 - k)))) = wantV s p 4 (k + 1)) := want_step s p 4 k (3 - k) (by omega) (by omega) hi'
      go_wp2
      go_round
      case rel => exact ⟨k + 1, by omega, by go_num, by rw [← HS.out]⟩
      case measure => simp [intOf]; omega
    · have : k = 4 := by omega
      subst this
      go_wp2
      go_ret
      exact ⟨rfl, (grown_drewN ((Grown.refl _).alloc _ _) _).setCell (Nat.le_refl _) _⟩

set_option maxHeartbeats 800000 in
theorem law8 (s : ByteArray) (a1 a2 : Int) (hs : s.size ≤ 1048576) (g0 : 0 ≤ a1) (g1 : a1 ≤ 18446744073709551615) (g2 : 0 ≤ a2) (g3 : a2 ≤ 255) (hk : a2 % 4 = 3) (hz : 8 ≤ s.size) (w : World) :
    Calls Yba.prog 3 #[.string s, .int .u64 a1, .int .u8 a2] w fun e w' => e = .returned (.bool true) ∧ Grown w w' := by
  obtain ⟨p, hp, hle⟩ := pos_ok a1 s.size 8 hz hs
  have HP : Hid (wrap64 (a1 % ((s.size : Int) - 8 + 1)) = (p : Int)) := hp
  clear hp
  have hend := want_end s p 8
  have h24 := q24
  have h25 := q25
  have h26 := q26
  go_enter Yba.func3, Yba.ntmps3
  go_wp2_with fail
  rw [HP.out]
  refine (arg_any s p w.heap.size 8 27 _ hs (by omega) hle (by simp) (by simp) (by simp)).mono ?_
  rintro e w' ⟨rfl, n, rfl⟩
  go_wp2
  go_loop [13, 14] (fun x i => ∃ k : Nat, k ≤ 8 ∧ i = .int .i64 k ∧ x = .int .u64 (wantV s p 8 k)) (fun _ i => 8 - (intOf i).toNat)
  case atStart => exact ⟨0, by omega, rfl, by simp [wantV, beV]⟩
  case round =>
    obtain ⟨k, hk4, rfl, rfl⟩ := hrel
    by_cases hlt : k < 8
    · have hi : (p : Int) + k < s.size := by omega
      have hi' : p + k < s.size := by omega
      have HS : Hid (bits .or .u64 (wantV s p 8 k) (IntKind.u64.wrap (IntKind.u64.wrap (s[p + k].toNat : Int) * 2 ^ (8 * (7 - k)))) = wantV s p 8 (k + 1)) := want_step s p 8 k (7 - k) (by omega) (by omega) hi'
      go_wp2
      go_round
      case rel => exact ⟨k + 1, by omega, by go_num, by rw [← HS.out]⟩
      case measure => simp [intOf]; omega
    · have : k = 8 := by omega
      subst this
      go_wp2
      go_ret
      exact ⟨rfl, (grown_drewN ((Grown.refl _).alloc _ _) _).setCell (Nat.le_refl _) _⟩
end Go.Proofs.Ybulkeeai
