/-
  LawS6521AWhole: the law's own reckoning, plain.
-/
import Derived.Test.YbulkeeaiArg
namespace Go.Proofs.Ybulkeeai
open Go.RowKit

/-- what the law's own loop has gathered behind k rounds: the bytes so far, at their places -/
def wantV (s : ByteArray) (p z k : Nat) : Int := (beV (s.extract p (p + k)).data.toList : Int) * 256 ^ (z - k)

theorem pos_ok (x : Int) (L z : Nat) (hz : z ≤ L) (hL : L ≤ 1048576) : ∃ p : Nat, wrap64 (x % ((L : Int) - z + 1)) = (p : Int) ∧ p + z ≤ L := by
  have h1 : 0 ≤ x % ((L : Int) - z + 1) := Int.emod_nonneg _ (by omega)
  have h2 : x % ((L : Int) - z + 1) < (L : Int) - z + 1 := Int.emod_lt_of_pos _ (by omega)
  refine ⟨(x % ((L : Int) - z + 1)).toNat, ?_, by omega⟩
  unfold wrap64
  omega

theorem ext_list (s : ByteArray) (p k : Nat) : (s.extract p (p + k)).data.toList = (s.data.toList.drop p).take k := by
  simp

theorem ext_snoc (s : ByteArray) (p k : Nat) (h : p + k < s.size) : (s.extract p (p + (k + 1))).data.toList = (s.extract p (p + k)).data.toList ++ [s[p + k]] := by
  rw [ext_list, ext_list, List.take_succ_eq_append_getElem (by simp; exact (show k < s.size - p by omega))]
  simp
  rfl

theorem ext_lt (s : ByteArray) (p k : Nat) : beV (s.extract p (p + k)).data.toList < 256 ^ k := by
  refine Nat.lt_of_lt_of_le (beV_lt _) (Nat.pow_le_pow_right (by decide) ?_)
  rw [ext_list]; exact List.length_take_le _ _

theorem want_step (s : ByteArray) (p z k e : Nat) (he : e + k + 1 = z) (hz : z ≤ 8) (hp : p + k < s.size) :
    bits .or .u64 (wantV s p z k) (IntKind.u64.wrap (IntKind.u64.wrap (s[p + k].toNat : Int) * 2 ^ (8 * e))) = wantV s p z (k + 1) := by
  have hc := s[p + k].toNat_lt
  have hB := ext_lt s p k
  unfold wantV
  rw [ext_snoc s p k hp, beV_snoc, byte_wrap]
  generalize beV (s.extract p (p + k)).data.toList = B at *
  generalize s[p + k].toNat = c at *
  have e1 : z - k = e + 1 := by omega
  have e2 : z - (k + 1) = e := by omega
  rw [e1, e2]
  have hM : (2 : Int) ^ (8 * e) = ((256 ^ e : Nat) : Int) := by rw [Int.pow_mul]; simp
  have hM1 : (256 : Int) ^ (e + 1) = ((256 ^ e : Nat) : Int) * 256 := by rw [Int.pow_succ]; simp
  have hM2 : (256 : Int) ^ e = ((256 ^ e : Nat) : Int) := by simp
  have hpow : (2 : Int) ^ (8 * (e + 1)) = ((256 ^ e : Nat) : Int) * 256 := by rw [Int.pow_mul, show (2 : Int) ^ 8 = 256 from rfl, hM1]
  have hall : 256 ^ k * (256 ^ e * 256) ≤ 18446744073709551616 := by
    have h3 : 256 ^ k * (256 ^ e * 256) = 256 ^ z := by rw [← Nat.pow_succ, ← Nat.pow_add]; congr 1; omega
    rw [h3]
    exact Nat.le_trans (Nat.pow_le_pow_right (by decide) hz) (by decide)
  rw [hM, hM1, hM2]
  have hpos : 0 < 256 ^ e := Nat.pow_pos (by decide)
  have hx : (B + 1) * (256 ^ e * 256) ≤ 18446744073709551616 := Nat.le_trans (Nat.mul_le_mul_right _ hB) hall
  generalize 256 ^ e = M at *
  have hcM : c * M < 256 * M := (Nat.mul_lt_mul_right hpos).2 hc
  have hBM : (B + 1) * (M * 256) = B * (M * 256) + M * 256 := by rw [Nat.add_mul, Nat.one_mul]
  have hMb : M * 256 ≤ 18446744073709551616 := by omega
  have y0 : (c : Int) * (M : Int) = ((c * M : Nat) : Int) := by simp
  have x0 : (B : Int) * ((M : Int) * 256) = ((B * (M * 256) : Nat) : Int) := by simp
  rw [y0, x0, wraps_u64 _ (by omega) (by omega)]
  rw [bits_join .u64 64 (by decide) wraps_u64 (8 * (e + 1)) _ _ (by omega) (by rw [hpow, ← x0]; exact Int.mul_emod_left _ _) (by omega) (by omega) (by rw [hpow]; omega) (by omega)]
  have : ((B * 256 + c : Nat) : Int) * (M : Int) = ((B * (M * 256) + c * M : Nat) : Int) := by
    rw [← Int.natCast_mul]; congr 1; rw [Nat.add_mul, Nat.mul_assoc, Nat.mul_comm 256 M]
  rw [this]; omega

theorem want_end (s : ByteArray) (p z : Nat) : (((beV ((s.data.toList.drop p).take z) : Nat) : Int) == wantV s p z z) = true := by
  unfold wantV; rw [ext_list]; simp
end Go.Proofs.Ybulkeeai
