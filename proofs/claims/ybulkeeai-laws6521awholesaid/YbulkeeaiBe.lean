/-
  LawS6521AWhole: the plain reckoning of big-endian numbers, and the walk of bigEndian[string].
-/
import Derived.Test.YbulkeeaiRows
import Derived.WalkKit
import Derived.WalkSpells
import Derived.WalkLawsBesides
import Derived.Laws.BitsAllLaws
namespace Go.Proofs.Ybulkeeai
open Go.RowKit

/-! ### Plain -/
/-- the number that bytes hold, the first byte the greatest -/
def beV (l : List UInt8) : Nat := l.foldl (fun n c => n * 256 + c.toNat) 0

theorem beV_snoc (l : List UInt8) (c : UInt8) : beV (l ++ [c]) = beV l * 256 + c.toNat := by
  simp [beV]

theorem beV_lt (l : List UInt8) : beV l < 256 ^ l.length := by
  suffices h : ∀ n (l : List UInt8), l.length = n → beV l < 256 ^ n from h _ l rfl
  intro n
  induction n with
  | zero => intro l hl; simp [List.length_eq_zero_iff.1 hl, beV]
  | succ n ih =>
    intro l hl
    rcases List.eq_nil_or_concat l with rfl | ⟨l', c, rfl⟩
    · simp at hl
    · rw [List.concat_eq_append] at hl ⊢
      rw [beV_snoc]
      have h1 := ih l' (by simpa using hl)
      have h2 : c.toNat < 256 := c.toNat_lt
      have h3 : 256 ^ (n + 1) = 256 ^ n * 256 := Nat.pow_succ ..
      omega

theorem take_snoc (s : ByteArray) (k : Nat) (h : k < s.size) : s.data.toList.take (k + 1) = s.data.toList.take k ++ [s[k]] := by
  rw [List.take_succ_eq_append_getElem (by simpa using h)]; rfl

theorem wraps_u64 (n : Int) (h₀ : 0 ≤ n) (h₁ : n < 2 ^ 64) : IntKind.u64.wrap n = n := by rw [IntKind.wrap_u64]; omega

theorem byte_wrap (c : UInt8) : IntKind.u64.wrap (c.toNat : Int) = (c.toNat : Int) := by
  have := c.toNat_lt
  exact wraps_u64 _ (by omega) (by omega)

/-- one round of bigEndian -/
theorem be_step (x : Nat) (c : UInt8) (hx : x < 72057594037927936) :
    bits .or .u64 (IntKind.u64.wrap ((x : Int) * 256)) (IntKind.u64.wrap (c.toNat : Int)) = ((x * 256 + c.toNat : Nat) : Int) := by
  have hc := c.toNat_lt
  rw [byte_wrap, wraps_u64 _ (by omega) (by omega)]
  rw [bits_join .u64 64 (by decide) wraps_u64 8 _ _ (by omega) (by omega) (by omega) (by omega) (by omega) (by omega)]
  omega

theorem ret_u64 {a b : Int} (h : a = b) : Ending.returned (.int .u64 a) = .returned (.int .u64 b) := by rw [h]

set_option maxHeartbeats 400000 in
theorem be_any (s : ByteArray) (w : World) (hs : s.size ≤ 8) :
    Calls Yba.prog 5 #[.string s] w fun e w' => e = .returned (.int .u64 (beV s.data.toList)) ∧ w' = w := by
  go_enter Yba.func5, Yba.ntmps5
  go_wp2
  go_loop [3, 4] (fun n i => ∃ k : Nat, k ≤ s.size ∧ i = .int .i64 k ∧ n = .int .u64 (beV (s.data.toList.take k))) (fun _ i => s.size - (intOf i).toNat)
  case atStart => exact ⟨0, Nat.zero_le _, rfl, rfl⟩
  case round =>
    obtain ⟨k, hk, rfl, rfl⟩ := hrel
    by_cases hlt : k < s.size
    · have hb := beV_lt (s.data.toList.take k)
      have hb7 : beV (s.data.toList.take k) < 256 ^ 7 := by
        refine Nat.lt_of_lt_of_le hb (Nat.pow_le_pow_right (by decide) ?_)
        have : (s.data.toList.take k).length ≤ k := List.length_take_le _ _
        omega
      have HS : Hid (beV (s.data.toList.take (k + 1)) = beV (s.data.toList.take k) * 256 + s[k].toNat) := by
        rw [take_snoc s k hlt]; exact beV_snoc _ _
      have HB : Hid (bits .or .u64 (IntKind.u64.wrap ((beV (s.data.toList.take k) : Int) * 256)) (IntKind.u64.wrap (s[k].toNat : Int)) = ((beV (s.data.toList.take k) * 256 + s[k].toNat : Nat) : Int)) := be_step _ _ (by omega)
      clear hb hb7
      go_wp2
      go_round
      case rel => exact ⟨k + 1, by omega, by go_num, by rw [HB.out, HS.out]⟩
      case measure => simp [intOf]; omega
    · go_wp2
      go_ret
      have : s.data.toList.take k = s.data.toList := List.take_of_length_le (by simp; omega)
      exact ⟨ret_u64 (by rw [this]), rfl⟩
end Go.Proofs.Ybulkeeai
