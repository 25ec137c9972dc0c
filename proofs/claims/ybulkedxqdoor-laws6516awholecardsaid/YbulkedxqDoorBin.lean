/-
  LawS6516AWhole: binary.BigEndian.Uint64, the law's equality of bytes.
-/
import Derived.Test.YbulkedxqDoorRows
import Derived.WalkKit
import Derived.WalkSpells
import Derived.WalkLawsBesides
import Derived.Laws.BitsAllLaws
import Derived.Deep.QuietTactic
import Derived.BigQuiet
import Derived.RowKit3
namespace Go.Proofs.YbulkedxqDoor
open Go.RowKit

/-! ### Plain -/
/-- the number that the first k bytes hold, the first one the greatest -/
def beI (x : Nat → Int) : Nat → Int
  | 0 => 0
  | k + 1 => beI x k * 256 + x k

def Byt (x : Nat → Int) : Prop := ∀ j, 0 ≤ x j ∧ x j < 256

theorem beI_lt (x : Nat → Int) (hx : Byt x) (k : Nat) : 0 ≤ beI x k ∧ beI x k < 256 ^ k := by
  induction k with
  | zero => simp [beI]
  | succ k ih =>
    have := hx k
    have e : (256 : Int) ^ (k + 1) = 256 ^ k * 256 := Int.pow_succ ..
    rw [e]
    simp only [beI]
    omega

theorem wraps_u64 (n : Int) (h₀ : 0 ≤ n) (h₁ : n < 2 ^ 64) : IntKind.u64.wrap n = n := by rw [IntKind.wrap_u64]; omega

/-- one round of the law's own loop -/
theorem be_step (a c : Int) (ha : 0 ≤ a) (ha' : a < 72057594037927936) (hc : 0 ≤ c) (hc' : c < 256) :
    bits .or .u64 (IntKind.u64.wrap (a * 256)) (IntKind.u64.wrap c) = a * 256 + c := by
  rw [wraps_u64 (a * 256) (by omega) (by omega), wraps_u64 c (by omega) (by omega)]
  exact bits_join .u64 64 (by decide) wraps_u64 8 _ _ (by omega) (by omega) (by omega) (by omega) (by omega) (by omega)

theorem or_lo_hi (i : Nat) (a b : Int) (ha : 0 ≤ a) (ha' : a < 2 ^ i) (ha64 : a < 2 ^ 64) (hb : 0 ≤ b) (hb' : b % 2 ^ i = 0) (hb64 : b < 2 ^ 64) : bits .or .u64 a b = a + b := by
  obtain ⟨A, rfl⟩ := Int.eq_ofNat_of_zero_le ha
  obtain ⟨B, rfl⟩ := Int.eq_ofNat_of_zero_le hb
  rw [u64_or_nat A B (by omega) (by omega), Nat.or_comm, nat_join i B A (by exact_mod_cast hb') (by exact_mod_cast ha')]
  omega

theorem be8 (x : Nat → Int) (hx : Byt x) :
    bits .or .u64 (bits .or .u64 (bits .or .u64 (bits .or .u64 (bits .or .u64 (bits .or .u64 (bits .or .u64 (IntKind.u64.wrap (x 7)) (IntKind.u64.wrap (IntKind.u64.wrap (x 6) * 256))) (IntKind.u64.wrap (IntKind.u64.wrap (x 5) * 65536))) (IntKind.u64.wrap (IntKind.u64.wrap (x 4) * 16777216))) (IntKind.u64.wrap (IntKind.u64.wrap (x 3) * 4294967296))) (IntKind.u64.wrap (IntKind.u64.wrap (x 2) * 1099511627776))) (IntKind.u64.wrap (IntKind.u64.wrap (x 1) * 281474976710656))) (IntKind.u64.wrap (IntKind.u64.wrap (x 0) * 72057594037927936)) = beI x 8 := by
  have h0 := hx 0
  have h1 := hx 1
  have h2 := hx 2
  have h3 := hx 3
  have h4 := hx 4
  have h5 := hx 5
  have h6 := hx 6
  have h7 := hx 7
  simp only [beI]
  generalize x 0 = x0 at *
  generalize x 1 = x1 at *
  generalize x 2 = x2 at *
  generalize x 3 = x3 at *
  generalize x 4 = x4 at *
  generalize x 5 = x5 at *
  generalize x 6 = x6 at *
  generalize x 7 = x7 at *
  rw [wraps_u64 x7 (by omega) (by omega), wraps_u64 x6 (by omega) (by omega), wraps_u64 x5 (by omega) (by omega), wraps_u64 x4 (by omega) (by omega), wraps_u64 x3 (by omega) (by omega), wraps_u64 x2 (by omega) (by omega), wraps_u64 x1 (by omega) (by omega), wraps_u64 x0 (by omega) (by omega)]
  rw [wraps_u64 (x6 * 256) (by omega) (by omega), wraps_u64 (x5 * 65536) (by omega) (by omega), wraps_u64 (x4 * 16777216) (by omega) (by omega), wraps_u64 (x3 * 4294967296) (by omega) (by omega), wraps_u64 (x2 * 1099511627776) (by omega) (by omega), wraps_u64 (x1 * 281474976710656) (by omega) (by omega), wraps_u64 (x0 * 72057594037927936) (by omega) (by omega)]
  rw [or_lo_hi 8 x7 (x6 * 256) (by omega) (by omega) (by omega) (by omega) (by omega) (by omega)]
  rw [or_lo_hi 16 (x7 + x6 * 256) (x5 * 65536) (by omega) (by omega) (by omega) (by omega) (by omega) (by omega)]
  rw [or_lo_hi 24 (x7 + x6 * 256 + x5 * 65536) (x4 * 16777216) (by omega) (by omega) (by omega) (by omega) (by omega) (by omega)]
  rw [or_lo_hi 32 (x7 + x6 * 256 + x5 * 65536 + x4 * 16777216) (x3 * 4294967296) (by omega) (by omega) (by omega) (by omega) (by omega) (by omega)]
  rw [or_lo_hi 40 (x7 + x6 * 256 + x5 * 65536 + x4 * 16777216 + x3 * 4294967296) (x2 * 1099511627776) (by omega) (by omega) (by omega) (by omega) (by omega) (by omega)]
  rw [or_lo_hi 48 (x7 + x6 * 256 + x5 * 65536 + x4 * 16777216 + x3 * 4294967296 + x2 * 1099511627776) (x1 * 281474976710656) (by omega) (by omega) (by omega) (by omega) (by omega) (by omega)]
  rw [or_lo_hi 56 (x7 + x6 * 256 + x5 * 65536 + x4 * 16777216 + x3 * 4294967296 + x2 * 1099511627776 + x1 * 281474976710656) (x0 * 72057594037927936) (by omega) (by omega) (by omega) (by omega) (by omega) (by omega)]
  omega

theorem ret_u64 {a b : Int} (h : a = b) : Ending.returned (.int .u64 a) = .returned (.int .u64 b) := by rw [h]

set_option maxHeartbeats 800000 in
theorem u64_any (g o : Nat) (x : Nat → Int) (hx : Byt x) (w : World) (_hg : g < w.heap.size) (hc : ∀ j, j < 8 → w.cell? ⟨g, o + j, none⟩ = some (.int .u8 (x j))) :
    Calls Ybad.prog 8 #[.agg #[], .slice (some ⟨g, o, none⟩) 8 8] w fun e w' => e = .returned (.int .u64 (beI x 8)) ∧ ∃ n, w' = (w.alloc (.cells #[] 43)).drewN n := by
  have HX : Hid (Byt x) := hx
  clear hx
  have c0 : w.cell? ⟨g, o, none⟩ = some (.int .u8 (x 0)) := hc 0 (by omega)
  have c1 := hc 1 (by omega)
  have c2 := hc 2 (by omega)
  have c3 := hc 3 (by omega)
  have c4 := hc 4 (by omega)
  have c5 := hc 5 (by omega)
  have c6 := hc 6 (by omega)
  have c7 := hc 7 (by omega)
  clear hc
  go_enter Ybad.func8, Ybad.ntmps8
  go_wp2
  go_quiet (fail)
  go_wp2
  go_ret
  exact ⟨ret_u64 (be8 x HX.out), nq, rfl⟩

set_option maxHeartbeats 400000 in
theorem eq0 (a a' : Option Addr) (c c' : Nat) (w : World) :
    Calls Ybad.prog 6 #[.slice a 0 c, .slice a' 0 c'] w fun e w' => e = .returned (.bool true) ∧ w' = w := by
  go_enter Ybad.func6, Ybad.ntmps6
  go_wp2
  refine wp_loop_rounds 1 ?_
  rw [rounds_succ]
  go_wp2
  go_ret
  exact ⟨rfl, rfl⟩

set_option maxHeartbeats 800000 in
theorem eqN (g o c g' o' c' n : Nat) (x : Nat → Int) (w : World) (hn : n ≤ 1048576) (hc : ∀ j, j < n → w.cell? ⟨g, o + j, none⟩ = some (.int .u8 (x j))) (hc' : ∀ j, j < n → w.cell? ⟨g', o' + j, none⟩ = some (.int .u8 (x j))) :
    Calls Ybad.prog 6 #[.slice (some ⟨g, o, none⟩) n c, .slice (some ⟨g', o', none⟩) n c'] w fun e w' => e = .returned (.bool true) ∧ ∃ m, w' = w.drewN m := by
  go_enter Ybad.func6, Ybad.ntmps6
  go_wp2
  go_loopw [5] (fun i wr => ∃ k : Nat, k ≤ n ∧ i = .int .i64 k ∧ ∃ m, wr = w.drewN m) (fun i _ => n - (intOf i).toNat)
  case atStart => exact ⟨0, Nat.zero_le _, rfl, 0, rfl⟩
  case round =>
    obtain ⟨k, hk, rfl, m, rfl⟩ := hrel
    by_cases hlt : k < n
    · have e1 := hc k hlt
      have e2 := hc' k hlt
      have hi : (k : Int) < (n : Int) := by omega
      have hi0 : (0 : Int) ≤ (k : Int) := by omega
      go_wp2
      go_quiet (fail)
      go_wp2
      exact ⟨⟨k + 1, by omega, by go_num, _, rfl⟩, by simp [intOf]; omega⟩
    · go_wp2
      go_ret
      exact ⟨rfl, m, rfl⟩
end Go.Proofs.YbulkedxqDoor
