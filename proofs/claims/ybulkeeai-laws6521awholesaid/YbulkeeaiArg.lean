/-
  LawS6521AWhole: the walk of (*cborBuilder).longArg.
-/
import Derived.Test.YbulkeeaiBe
import Derived.Deep.QuietTactic
import Derived.BigQuiet
namespace Go.Proofs.Ybulkeeai
open Go.RowKit

set_option maxHeartbeats 800000 in
theorem arg_any (s : ByteArray) (p b z : Nat) (info : Int) (w : World) (hs : s.size ≤ 1048576) (hz : (info = 24 ∧ z = 1) ∨ (info = 25 ∧ z = 2) ∨ (info = 26 ∧ z = 4) ∨ (info = 27 ∧ z = 8)) (hp : p + z ≤ s.size)
    (h0 : w.cell? ⟨b, 0, none⟩ = some (.string s)) (h1 : w.cell? ⟨b, 1, none⟩ = some (.int .i64 p)) (hf : w.frozen? ⟨b, 1, none⟩ = false) :
    Calls Yba.prog 4 #[.pointer (some ⟨b, 0, none⟩), .int .u8 info] w fun e w' => e = .returned (.int .u64 (beV (s.extract p (p + z)).data.toList)) ∧ ∃ n, w' = (w.drewN n).setCell ⟨b, 1, none⟩ (.int .i64 ((p : Int) + z)) := by
  have hp0 : (0 : Int) ≤ (p : Int) := by omega
  rcases hz with ⟨rfl, rfl⟩ | ⟨rfl, rfl⟩ | ⟨rfl, rfl⟩ | ⟨rfl, rfl⟩
  · have hb1 : (p : Int) ≤ (p : Int) + 1 := by omega
    have hb2 : (p : Int) + 1 ≤ (s.size : Int) := by omega
    go_enter Yba.func4, Yba.ntmps4
    go_wp2
    go_quiet ((go_at_call 5; exact Calls.quiet_of_same (be_any _ _ (by simp; omega))))
    go_wp2
    go_ret
    exact ⟨rfl, nq, rfl⟩
  · have hb1 : (p : Int) ≤ (p : Int) + 2 := by omega
    have hb2 : (p : Int) + 2 ≤ (s.size : Int) := by omega
    go_enter Yba.func4, Yba.ntmps4
    go_wp2
    go_quiet ((go_at_call 5; exact Calls.quiet_of_same (be_any _ _ (by simp; omega))))
    go_wp2
    go_ret
    exact ⟨rfl, nq, rfl⟩
  · have hb1 : (p : Int) ≤ (p : Int) + 4 := by omega
    have hb2 : (p : Int) + 4 ≤ (s.size : Int) := by omega
    go_enter Yba.func4, Yba.ntmps4
    go_wp2
    go_quiet ((go_at_call 5; exact Calls.quiet_of_same (be_any _ _ (by simp; omega))))
    go_wp2
    go_ret
    exact ⟨rfl, nq, rfl⟩
  · have hb1 : (p : Int) ≤ (p : Int) + 8 := by omega
    have hb2 : (p : Int) + 8 ≤ (s.size : Int) := by omega
    go_enter Yba.func4, Yba.ntmps4
    go_wp2
    go_quiet ((go_at_call 5; exact Calls.quiet_of_same (be_any _ _ (by simp; omega))))
    go_wp2
    go_ret
    exact ⟨rfl, nq, rfl⟩
end Go.Proofs.Ybulkeeai
