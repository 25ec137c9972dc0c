/-
  LawS6516AWhole: (*decoder).tag, its callee fixed walked in place.
-/
import Derived.Test.YbulkedxqDoorBin
namespace Go.Proofs.YbulkedxqDoor
open Go.RowKit

set_option maxHeartbeats 400000 in
theorem tag_err (p : Nat) (a1 : Addr) (e0 : Value) (a : Addr) (w : World) (he : e0 = .iface 38 (.pointer (some a))) (hc2 : w.cell? ⟨p, 2, none⟩ = some e0) (hf2 : w.frozen? ⟨p, 2, none⟩ = false)
    (hg : w.cell? ⟨0, 0, none⟩ = some (.iface 38 (.pointer (some a1)))) :
    Calls Ybad.prog 5 #[.pointer (some ⟨p, 0, none⟩)] w fun e w' => e = .returned (.int .u64 0) ∧ w' = w.setCell ⟨p, 2, none⟩ (.iface 38 (.pointer (some a1))) := by
  subst he
  go_enter Ybad.func5, Ybad.ntmps5
  go_wp2
  go_ret
  exact ⟨rfl, rfl⟩

set_option maxHeartbeats 400000 in
theorem tag_short (p : Nat) (a1 : Addr) (a : Option Addr) (n c : Nat) (w : World) (hn : n < 8) (hc2 : w.cell? ⟨p, 2, none⟩ = some .nilIface) (hc0 : w.cell? ⟨p, 0, none⟩ = some (.slice a n c)) (hf2 : w.frozen? ⟨p, 2, none⟩ = false)
    (hg : w.cell? ⟨0, 0, none⟩ = some (.iface 38 (.pointer (some a1)))) :
    Calls Ybad.prog 5 #[.pointer (some ⟨p, 0, none⟩)] w fun e w' => e = .returned (.int .u64 0) ∧ w' = w.setCell ⟨p, 2, none⟩ (.iface 38 (.pointer (some a1))) := by
  go_enter Ybad.func5, Ybad.ntmps5
  go_wp2
  go_ret
  exact ⟨rfl, rfl⟩

set_option maxHeartbeats 800000 in
theorem tag_more (p g n : Nat) (x : Nat → Int) (hx : Byt x) (w : World) (hn : 8 < n) (hn' : n ≤ 1048576) (hgs : g < w.heap.size) (hpg : p ≠ g) (hc2 : w.cell? ⟨p, 2, none⟩ = some .nilIface) (hc0 : w.cell? ⟨p, 0, none⟩ = some (.slice (some ⟨g, 0, none⟩) n n)) (hf0 : w.frozen? ⟨p, 0, none⟩ = false)
    (hc : ∀ j, j < n → w.cell? ⟨g, j, none⟩ = some (.int .u8 (x j))) :
    Calls Ybad.prog 5 #[.pointer (some ⟨p, 0, none⟩)] w fun e w' => e = .returned (.int .u64 (beI x 8)) ∧ ∃ m, w' = ((w.setCell ⟨p, 0, none⟩ (.slice (some ⟨g, 8, none⟩) (n - 8) (n - 8))).alloc (.cells #[] 43)).drewN m := by
  have HX : Hid (Byt x) := hx
  clear hx
  have HC : Hid (∀ j, j < n → w.cell? ⟨g, j, none⟩ = some (.int .u8 (x j))) := hc
  clear hc
  have k1 : (8 : Int) ≤ (n : Int) := by omega
  have k2 : ¬ n = 8 := by omega
  go_enter Ybad.func5, Ybad.ntmps5
  go_wp2_with (first | (go_at_call 7; go_in))
  refine (u64_any g 0 x HX.out _ (by simpa using hgs) (fun j hj => by rw [Nat.zero_add]; exact (World.cell?_of_block (Below.heap_setCell w ⟨p, 0, none⟩ _ g (Ne.symm hpg))).trans (HC.out j (by omega)))).mono ?_
  rintro e w' ⟨rfl, m, rfl⟩
  go_wp2
  go_ret
  exact ⟨rfl, m, rfl⟩

set_option maxHeartbeats 800000 in
theorem tag_eight (p g : Nat) (x : Nat → Int) (hx : Byt x) (w : World) (hgs : g < w.heap.size) (hpg : p ≠ g) (hc2 : w.cell? ⟨p, 2, none⟩ = some .nilIface) (hc0 : w.cell? ⟨p, 0, none⟩ = some (.slice (some ⟨g, 0, none⟩) 8 8)) (hf0 : w.frozen? ⟨p, 0, none⟩ = false)
    (hc : ∀ j, j < 8 → w.cell? ⟨g, j, none⟩ = some (.int .u8 (x j))) :
    Calls Ybad.prog 5 #[.pointer (some ⟨p, 0, none⟩)] w fun e w' => e = .returned (.int .u64 (beI x 8)) ∧ ∃ m, w' = ((w.setCell ⟨p, 0, none⟩ (.slice (some ⟨g, 0, none⟩) 0 0)).alloc (.cells #[] 43)).drewN m := by
  have HX : Hid (Byt x) := hx
  clear hx
  have HC : Hid (∀ j, j < 8 → w.cell? ⟨g, j, none⟩ = some (.int .u8 (x j))) := hc
  clear hc
  go_enter Ybad.func5, Ybad.ntmps5
  go_wp2_with (first | (go_at_call 7; go_in))
  refine (u64_any g 0 x HX.out _ (by simpa using hgs) (fun j hj => by rw [Nat.zero_add]; exact (World.cell?_of_block (Below.heap_setCell w ⟨p, 0, none⟩ _ g (Ne.symm hpg))).trans (HC.out j (by omega)))).mono ?_
  rintro e w' ⟨rfl, m, rfl⟩
  go_wp2
  go_ret
  exact ⟨rfl, m, rfl⟩
end Go.Proofs.YbulkedxqDoor
