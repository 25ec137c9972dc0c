/-
  LawS6516AWhole: the walks of the law's other ways.
-/
import Derived.Test.YbulkedxqDoorLaw
namespace Go.Proofs.YbulkedxqDoor
open Go.RowKit

set_option maxHeartbeats 1600000 in
/-- fewer than eight bytes, no prior error -/
theorem law_short (g o n c : Nat) (x : Nat → Int) (nar sel : Int) (a1 : Addr) (w : World) (hn : n < 8) (hn' : n ≤ 1048576) (hg : g < w.heap.size) (hc : ∀ j, j < n → w.cell? ⟨g, o + j, none⟩ = some (.int .u8 (x j))) (hgl : w.cell? ⟨0, 0, none⟩ = some (.iface 38 (.pointer (some a1)))) (h0 : 0 < w.heap.size) (s0 : 0 ≤ sel) (s1 : sel ≤ 255) (hs : sel % 3 = 0) :
    Calls Ybad.prog 3 #[.slice (some ⟨g, o, none⟩) n c, .int .u8 nar, .int .u8 sel] w fun e w' => e = .returned (.bool true) ∧ Below w.heap.size w w' := by
  obtain ⟨cs, hcs, hmk⟩ := make_n n hn' w
  obtain ⟨W1, hcp, hB1, hS1, hc1⟩ := copy_n n g o c x cs hcs w hg hc
  have HB1 : Hid (Below w.heap.size w W1) := hB1
  have HC1 : Hid (∀ j, j < n → W1.cell? ⟨w.heap.size, j, none⟩ = some (.int .u8 (x j))) := hc1
  have HC : Hid (∀ j, j < n → W1.cell? ⟨g, o + j, none⟩ = some (.int .u8 (x j))) := fun j hj => (hB1.cell (p := ⟨g, o + j, none⟩) hg).trans (hc j hj)
  have HS1 : Hid (W1.heap.size = w.heap.size + 1) := hS1
  have hg1 : W1.cell? ⟨0, 0, none⟩ = some (.iface 38 (.pointer (some a1))) := (hB1.cell (p := ⟨0, 0, none⟩) h0).trans hgl
  have hlt : w.heap.size < W1.heap.size := by rw [HS1.out]; omega
  have h01 : 0 < W1.heap.size := by omega
  clear hB1 hS1 hc1 hc
  have hq := eql_nil
  have hni := neq_iface
  go_enter Ybad.func3, Ybad.ntmps3
  go_wp2_with fail
  refine (tag_short W1.heap.size a1 (some ⟨w.heap.size, 0, none⟩) n n _ hn (by simp [go_sem]) (by simp [go_sem]) (by simp [go_sem]) (by simp [go_sem, hg1, h01])).mono ?_
  rintro e W2 ⟨rfl, hW2⟩
  have hB2 : Below W1.heap.size W1 W2 := by
    rw [hW2]
    exact ((Below.refl _ _).alloc (Nat.le_refl _) _).setCell (p := ⟨W1.heap.size, 2, none⟩) (Nat.le_refl _) _
  have e0 : W2.cell? ⟨W1.heap.size, 0, none⟩ = some (.slice (some ⟨w.heap.size, 0, none⟩) n n) := by rw [hW2]; simp [go_sem]
  have e1 : W2.cell? ⟨W1.heap.size, 1, none⟩ = some (.int .u8 nar) := by rw [hW2]; simp [go_sem]
  have e2 : W2.cell? ⟨W1.heap.size, 2, none⟩ = some (.iface 38 (.pointer (some a1))) := by rw [hW2]; simp [go_sem]
  have eg : W2.cell? ⟨0, 0, none⟩ = some (.iface 38 (.pointer (some a1))) := (hB2.cell (p := ⟨0, 0, none⟩) h01).trans hg1
  have HB2 : Hid (Below w.heap.size w W2) := HB1.out.trans (hB2.mono (Nat.le_of_lt hlt))
  have HC2 : Hid (∀ j, j < n → W2.cell? ⟨w.heap.size, j, none⟩ = some (.int .u8 (x j))) := fun j hj => (hB2.cell (p := ⟨w.heap.size, j, none⟩) hlt).trans (HC1.out j hj)
  have HD2 : Hid (∀ j, j < n → W2.cell? ⟨g, o + j, none⟩ = some (.int .u8 (x j))) := fun j hj => (hB2.cell (p := ⟨g, o + j, none⟩) (by simp; omega)).trans (HC.out j hj)
  clear hW2 hB2 HC HC1 HB1 hmk hcp hg1
  go_wp2_with fail
  refine (eqN w.heap.size 0 n g o c n x _ hn' (fun j hj => by rw [Nat.zero_add]; exact HC2.out j hj) (by exact HD2.out)).mono ?_
  rintro e W3 ⟨rfl, m3, rfl⟩
  go_wp2_with fail
  go_quiet (fail)
  go_wp2_with fail
  refine (eqN w.heap.size 0 n g o c n x _ hn' (fun j hj => by rw [Nat.zero_add]; exact HC2.out j hj) (by exact HD2.out)).mono ?_
  rintro e W4 ⟨rfl, m4, rfl⟩
  go_wp2
  go_ret
  exact ⟨rfl, by repeat (first | exact HB2.out | refine below_drewN ?_ _)⟩

set_option maxHeartbeats 1600000 in
/-- the prior error is errShortFrame -/
theorem law_p1 (g o n c : Nat) (x : Nat → Int) (nar sel : Int) (a1 : Addr) (w : World) (hn' : n ≤ 1048576) (hg : g < w.heap.size) (hc : ∀ j, j < n → w.cell? ⟨g, o + j, none⟩ = some (.int .u8 (x j))) (hgl : w.cell? ⟨0, 0, none⟩ = some (.iface 38 (.pointer (some a1)))) (h0 : 0 < w.heap.size) (s0 : 0 ≤ sel) (s1 : sel ≤ 255) (hs : sel % 3 = 1) :
    Calls Ybad.prog 3 #[.slice (some ⟨g, o, none⟩) n c, .int .u8 nar, .int .u8 sel] w fun e w' => e = .returned (.bool true) ∧ Below w.heap.size w w' := by
  obtain ⟨cs, hcs, hmk⟩ := make_n n hn' w
  obtain ⟨W1, hcp, hB1, hS1, hc1⟩ := copy_n n g o c x cs hcs w hg hc
  have HB1 : Hid (Below w.heap.size w W1) := hB1
  have HC1 : Hid (∀ j, j < n → W1.cell? ⟨w.heap.size, j, none⟩ = some (.int .u8 (x j))) := hc1
  have HC : Hid (∀ j, j < n → W1.cell? ⟨g, o + j, none⟩ = some (.int .u8 (x j))) := fun j hj => (hB1.cell (p := ⟨g, o + j, none⟩) hg).trans (hc j hj)
  have HS1 : Hid (W1.heap.size = w.heap.size + 1) := hS1
  have hg1 : W1.cell? ⟨0, 0, none⟩ = some (.iface 38 (.pointer (some a1))) := (hB1.cell (p := ⟨0, 0, none⟩) h0).trans hgl
  have hlt : w.heap.size < W1.heap.size := by rw [HS1.out]; omega
  have h01 : 0 < W1.heap.size := by omega
  clear hB1 hS1 hc1 hc
  have hq := eql_nil
  have hni := neq_iface
  go_enter Ybad.func3, Ybad.ntmps3
  go_wp2_with fail
  refine (tag_err W1.heap.size a1 _ a1 _ rfl (by simp [go_sem]) (by simp [go_sem]) (by simp [go_sem, hg1, h01])).mono ?_
  rintro e W2 ⟨rfl, hW2⟩
  have hB2 : Below W1.heap.size W1 W2 := by
    rw [hW2]
    exact ((Below.refl _ _).alloc (Nat.le_refl _) _).setCell (p := ⟨W1.heap.size, 2, none⟩) (Nat.le_refl _) _
  have e0 : W2.cell? ⟨W1.heap.size, 0, none⟩ = some (.slice (some ⟨w.heap.size, 0, none⟩) n n) := by rw [hW2]; simp [go_sem]
  have e1 : W2.cell? ⟨W1.heap.size, 1, none⟩ = some (.int .u8 nar) := by rw [hW2]; simp [go_sem]
  have e2 : W2.cell? ⟨W1.heap.size, 2, none⟩ = some (.iface 38 (.pointer (some a1))) := by rw [hW2]; simp [go_sem]
  have eg : W2.cell? ⟨0, 0, none⟩ = some (.iface 38 (.pointer (some a1))) := (hB2.cell (p := ⟨0, 0, none⟩) h01).trans hg1
  have HB2 : Hid (Below w.heap.size w W2) := HB1.out.trans (hB2.mono (Nat.le_of_lt hlt))
  have HC2 : Hid (∀ j, j < n → W2.cell? ⟨w.heap.size, j, none⟩ = some (.int .u8 (x j))) := fun j hj => (hB2.cell (p := ⟨w.heap.size, j, none⟩) hlt).trans (HC1.out j hj)
  have HD2 : Hid (∀ j, j < n → W2.cell? ⟨g, o + j, none⟩ = some (.int .u8 (x j))) := fun j hj => (hB2.cell (p := ⟨g, o + j, none⟩) (by simp; omega)).trans (HC.out j hj)
  clear hW2 hB2 HC HC1 HB1 hmk hcp hg1
  go_wp2_with fail
  refine (eqN w.heap.size 0 n g o c n x _ hn' (fun j hj => by rw [Nat.zero_add]; exact HC2.out j hj) (by exact HD2.out)).mono ?_
  rintro e W3 ⟨rfl, m3, rfl⟩
  go_wp2_with fail
  go_quiet (fail)
  go_wp2_with fail
  refine (eqN w.heap.size 0 n g o c n x _ hn' (fun j hj => by rw [Nat.zero_add]; exact HC2.out j hj) (by exact HD2.out)).mono ?_
  rintro e W4 ⟨rfl, m4, rfl⟩
  go_wp2
  go_ret
  exact ⟨rfl, by repeat (first | exact HB2.out | refine below_drewN ?_ _)⟩

set_option maxHeartbeats 1600000 in
/-- the prior error is another one -/
theorem law_p2 (g o n c : Nat) (x : Nat → Int) (nar sel : Int) (a1 : Addr) (w : World) (hn' : n ≤ 1048576) (hg : g < w.heap.size) (hc : ∀ j, j < n → w.cell? ⟨g, o + j, none⟩ = some (.int .u8 (x j))) (hgl : w.cell? ⟨0, 0, none⟩ = some (.iface 38 (.pointer (some a1)))) (h0 : 0 < w.heap.size) (s0 : 0 ≤ sel) (s1 : sel ≤ 255) (hs : sel % 3 = 2) :
    Calls Ybad.prog 3 #[.slice (some ⟨g, o, none⟩) n c, .int .u8 nar, .int .u8 sel] w fun e w' => e = .returned (.bool true) ∧ Below w.heap.size w w' := by
  obtain ⟨cs, hcs, hmk⟩ := make_n n hn' w
  obtain ⟨W1, hcp, hB1, hS1, hc1⟩ := copy_n n g o c x cs hcs w hg hc
  have HB1 : Hid (Below w.heap.size w W1) := hB1
  have HC1 : Hid (∀ j, j < n → W1.cell? ⟨w.heap.size, j, none⟩ = some (.int .u8 (x j))) := hc1
  have HC : Hid (∀ j, j < n → W1.cell? ⟨g, o + j, none⟩ = some (.int .u8 (x j))) := fun j hj => (hB1.cell (p := ⟨g, o + j, none⟩) hg).trans (hc j hj)
  have HS1 : Hid (W1.heap.size = w.heap.size + 1) := hS1
  have hg1 : W1.cell? ⟨0, 0, none⟩ = some (.iface 38 (.pointer (some a1))) := (hB1.cell (p := ⟨0, 0, none⟩) h0).trans hgl
  have hlt : w.heap.size < W1.heap.size := by rw [HS1.out]; omega
  have h01 : 0 < W1.heap.size := by omega
  clear hB1 hS1 hc1 hc
  have hq := eql_nil
  have hni := neq_iface
  go_enter Ybad.func3, Ybad.ntmps3
  go_wp2_with (first | (go_at_call 4; go_in))
  refine (tag_err (W1.heap.size + 1) a1 _ ⟨W1.heap.size, 0, none⟩ _ rfl (by simp [go_sem]) (by simp [go_sem]) (by simp [go_sem, hg1, h01])).mono ?_
  rintro e W2 ⟨rfl, hW2⟩
  have hB2 : Below W1.heap.size W1 W2 := by
    rw [hW2]
    exact (((Below.refl _ _).alloc (Nat.le_refl _) _).alloc (by simp) _).setCell (p := ⟨W1.heap.size + 1, 2, none⟩) (by simp) _
  have e0 : W2.cell? ⟨(W1.heap.size + 1), 0, none⟩ = some (.slice (some ⟨w.heap.size, 0, none⟩) n n) := by rw [hW2]; simp [go_sem]
  have e1 : W2.cell? ⟨(W1.heap.size + 1), 1, none⟩ = some (.int .u8 nar) := by rw [hW2]; simp [go_sem]
  have e2 : W2.cell? ⟨(W1.heap.size + 1), 2, none⟩ = some (.iface 38 (.pointer (some a1))) := by rw [hW2]; simp [go_sem]
  have eg : W2.cell? ⟨0, 0, none⟩ = some (.iface 38 (.pointer (some a1))) := (hB2.cell (p := ⟨0, 0, none⟩) h01).trans hg1
  have HB2 : Hid (Below w.heap.size w W2) := HB1.out.trans (hB2.mono (Nat.le_of_lt hlt))
  have HC2 : Hid (∀ j, j < n → W2.cell? ⟨w.heap.size, j, none⟩ = some (.int .u8 (x j))) := fun j hj => (hB2.cell (p := ⟨w.heap.size, j, none⟩) hlt).trans (HC1.out j hj)
  have HD2 : Hid (∀ j, j < n → W2.cell? ⟨g, o + j, none⟩ = some (.int .u8 (x j))) := fun j hj => (hB2.cell (p := ⟨g, o + j, none⟩) (by simp; omega)).trans (HC.out j hj)
  clear hW2 hB2 HC HC1 HB1 hmk hcp hg1
  go_wp2_with fail
  refine (eqN w.heap.size 0 n g o c n x _ hn' (fun j hj => by rw [Nat.zero_add]; exact HC2.out j hj) (by exact HD2.out)).mono ?_
  rintro e W3 ⟨rfl, m3, rfl⟩
  go_wp2_with fail
  go_quiet (fail)
  go_wp2_with fail
  refine (eqN w.heap.size 0 n g o c n x _ hn' (fun j hj => by rw [Nat.zero_add]; exact HC2.out j hj) (by exact HD2.out)).mono ?_
  rintro e W4 ⟨rfl, m4, rfl⟩
  go_wp2
  go_ret
  exact ⟨rfl, by repeat (first | exact HB2.out | refine below_drewN ?_ _)⟩

set_option maxHeartbeats 1600000 in
/-- nil, no prior error -/
theorem nil_0 (nar sel : Int) (a1 : Addr) (w : World) (hgl : w.cell? ⟨0, 0, none⟩ = some (.iface 38 (.pointer (some a1)))) (h0 : 0 < w.heap.size) (s0 : 0 ≤ sel) (s1 : sel ≤ 255) (hs : sel % 3 = 0) :
    Calls Ybad.prog 3 #[.slice none 0 0, .int .u8 nar, .int .u8 sel] w fun e w' => e = .returned (.bool true) ∧ Below w.heap.size w w' := by
  obtain ⟨cs, _, hmk⟩ := make_n 0 (by omega) w
  rw [show ((0 : Nat) : Int) = 0 from rfl] at hmk
  obtain ⟨W1, hcp, hB1, hS1⟩ := copy_0 cs none 0 w
  have HB1 : Hid (Below w.heap.size w W1) := hB1
  have HS1 : Hid (W1.heap.size = w.heap.size + 1) := hS1
  have hg1 : W1.cell? ⟨0, 0, none⟩ = some (.iface 38 (.pointer (some a1))) := (hB1.cell (p := ⟨0, 0, none⟩) h0).trans hgl
  have hlt : w.heap.size < W1.heap.size := by rw [HS1.out]; omega
  have h01 : 0 < W1.heap.size := by omega
  clear hB1 hS1
  have hq := eql_nil
  have hni := neq_iface
  go_enter Ybad.func3, Ybad.ntmps3
  go_wp2_with fail
  refine (tag_short W1.heap.size a1 none 0 0 _ (by omega) (by simp [go_sem]) (by simp [go_sem]) (by simp [go_sem]) (by simp [go_sem, hg1, h01])).mono ?_
  rintro e W2 ⟨rfl, hW2⟩
  have hB2 : Below W1.heap.size W1 W2 := by
    rw [hW2]
    exact ((Below.refl _ _).alloc (Nat.le_refl _) _).setCell (p := ⟨W1.heap.size, 2, none⟩) (Nat.le_refl _) _
  have e0 : W2.cell? ⟨W1.heap.size, 0, none⟩ = some (.slice none 0 0) := by rw [hW2]; simp [go_sem]
  have e1 : W2.cell? ⟨W1.heap.size, 1, none⟩ = some (.int .u8 nar) := by rw [hW2]; simp [go_sem]
  have e2 : W2.cell? ⟨W1.heap.size, 2, none⟩ = some (.iface 38 (.pointer (some a1))) := by rw [hW2]; simp [go_sem]
  have eg : W2.cell? ⟨0, 0, none⟩ = some (.iface 38 (.pointer (some a1))) := (hB2.cell (p := ⟨0, 0, none⟩) h01).trans hg1
  have HB2 : Hid (Below w.heap.size w W2) := HB1.out.trans (hB2.mono (Nat.le_of_lt hlt))
  clear hW2 hB2 HB1 hmk hcp hg1
  go_wp2_with fail
  refine (eq0 _ _ _ _ _).mono ?_
  rintro e W3 ⟨rfl, rfl⟩
  go_wp2_with fail
  go_quiet (fail)
  go_wp2_with fail
  refine (eq0 _ _ _ _ _).mono ?_
  rintro e W4 ⟨rfl, rfl⟩
  go_wp2
  go_ret
  exact ⟨rfl, by repeat (first | exact HB2.out | refine below_drewN ?_ _)⟩

set_option maxHeartbeats 1600000 in
/-- nil, the prior error is errShortFrame -/
theorem nil_1 (nar sel : Int) (a1 : Addr) (w : World) (hgl : w.cell? ⟨0, 0, none⟩ = some (.iface 38 (.pointer (some a1)))) (h0 : 0 < w.heap.size) (s0 : 0 ≤ sel) (s1 : sel ≤ 255) (hs : sel % 3 = 1) :
    Calls Ybad.prog 3 #[.slice none 0 0, .int .u8 nar, .int .u8 sel] w fun e w' => e = .returned (.bool true) ∧ Below w.heap.size w w' := by
  obtain ⟨cs, _, hmk⟩ := make_n 0 (by omega) w
  rw [show ((0 : Nat) : Int) = 0 from rfl] at hmk
  obtain ⟨W1, hcp, hB1, hS1⟩ := copy_0 cs none 0 w
  have HB1 : Hid (Below w.heap.size w W1) := hB1
  have HS1 : Hid (W1.heap.size = w.heap.size + 1) := hS1
  have hg1 : W1.cell? ⟨0, 0, none⟩ = some (.iface 38 (.pointer (some a1))) := (hB1.cell (p := ⟨0, 0, none⟩) h0).trans hgl
  have hlt : w.heap.size < W1.heap.size := by rw [HS1.out]; omega
  have h01 : 0 < W1.heap.size := by omega
  clear hB1 hS1
  have hq := eql_nil
  have hni := neq_iface
  go_enter Ybad.func3, Ybad.ntmps3
  go_wp2_with fail
  refine (tag_err W1.heap.size a1 _ a1 _ rfl (by simp [go_sem]) (by simp [go_sem]) (by simp [go_sem, hg1, h01])).mono ?_
  rintro e W2 ⟨rfl, hW2⟩
  have hB2 : Below W1.heap.size W1 W2 := by
    rw [hW2]
    exact ((Below.refl _ _).alloc (Nat.le_refl _) _).setCell (p := ⟨W1.heap.size, 2, none⟩) (Nat.le_refl _) _
  have e0 : W2.cell? ⟨W1.heap.size, 0, none⟩ = some (.slice none 0 0) := by rw [hW2]; simp [go_sem]
  have e1 : W2.cell? ⟨W1.heap.size, 1, none⟩ = some (.int .u8 nar) := by rw [hW2]; simp [go_sem]
  have e2 : W2.cell? ⟨W1.heap.size, 2, none⟩ = some (.iface 38 (.pointer (some a1))) := by rw [hW2]; simp [go_sem]
  have eg : W2.cell? ⟨0, 0, none⟩ = some (.iface 38 (.pointer (some a1))) := (hB2.cell (p := ⟨0, 0, none⟩) h01).trans hg1
  have HB2 : Hid (Below w.heap.size w W2) := HB1.out.trans (hB2.mono (Nat.le_of_lt hlt))
  clear hW2 hB2 HB1 hmk hcp hg1
  go_wp2_with fail
  refine (eq0 _ _ _ _ _).mono ?_
  rintro e W3 ⟨rfl, rfl⟩
  go_wp2_with fail
  go_quiet (fail)
  go_wp2_with fail
  refine (eq0 _ _ _ _ _).mono ?_
  rintro e W4 ⟨rfl, rfl⟩
  go_wp2
  go_ret
  exact ⟨rfl, by repeat (first | exact HB2.out | refine below_drewN ?_ _)⟩

set_option maxHeartbeats 1600000 in
/-- nil, the prior error is another one -/
theorem nil_2 (nar sel : Int) (a1 : Addr) (w : World) (hgl : w.cell? ⟨0, 0, none⟩ = some (.iface 38 (.pointer (some a1)))) (h0 : 0 < w.heap.size) (s0 : 0 ≤ sel) (s1 : sel ≤ 255) (hs : sel % 3 = 2) :
    Calls Ybad.prog 3 #[.slice none 0 0, .int .u8 nar, .int .u8 sel] w fun e w' => e = .returned (.bool true) ∧ Below w.heap.size w w' := by
  obtain ⟨cs, _, hmk⟩ := make_n 0 (by omega) w
  rw [show ((0 : Nat) : Int) = 0 from rfl] at hmk
  obtain ⟨W1, hcp, hB1, hS1⟩ := copy_0 cs none 0 w
  have HB1 : Hid (Below w.heap.size w W1) := hB1
  have HS1 : Hid (W1.heap.size = w.heap.size + 1) := hS1
  have hg1 : W1.cell? ⟨0, 0, none⟩ = some (.iface 38 (.pointer (some a1))) := (hB1.cell (p := ⟨0, 0, none⟩) h0).trans hgl
  have hlt : w.heap.size < W1.heap.size := by rw [HS1.out]; omega
  have h01 : 0 < W1.heap.size := by omega
  clear hB1 hS1
  have hq := eql_nil
  have hni := neq_iface
  go_enter Ybad.func3, Ybad.ntmps3
  go_wp2_with (first | (go_at_call 4; go_in))
  refine (tag_err (W1.heap.size + 1) a1 _ ⟨W1.heap.size, 0, none⟩ _ rfl (by simp [go_sem]) (by simp [go_sem]) (by simp [go_sem, hg1, h01])).mono ?_
  rintro e W2 ⟨rfl, hW2⟩
  have hB2 : Below W1.heap.size W1 W2 := by
    rw [hW2]
    exact (((Below.refl _ _).alloc (Nat.le_refl _) _).alloc (by simp) _).setCell (p := ⟨W1.heap.size + 1, 2, none⟩) (by simp) _
  have e0 : W2.cell? ⟨(W1.heap.size + 1), 0, none⟩ = some (.slice none 0 0) := by rw [hW2]; simp [go_sem]
  have e1 : W2.cell? ⟨(W1.heap.size + 1), 1, none⟩ = some (.int .u8 nar) := by rw [hW2]; simp [go_sem]
  have e2 : W2.cell? ⟨(W1.heap.size + 1), 2, none⟩ = some (.iface 38 (.pointer (some a1))) := by rw [hW2]; simp [go_sem]
  have eg : W2.cell? ⟨0, 0, none⟩ = some (.iface 38 (.pointer (some a1))) := (hB2.cell (p := ⟨0, 0, none⟩) h01).trans hg1
  have HB2 : Hid (Below w.heap.size w W2) := HB1.out.trans (hB2.mono (Nat.le_of_lt hlt))
  clear hW2 hB2 HB1 hmk hcp hg1
  go_wp2_with fail
  refine (eq0 _ _ _ _ _).mono ?_
  rintro e W3 ⟨rfl, rfl⟩
  go_wp2_with fail
  go_quiet (fail)
  go_wp2_with fail
  refine (eq0 _ _ _ _ _).mono ?_
  rintro e W4 ⟨rfl, rfl⟩
  go_wp2
  go_ret
  exact ⟨rfl, by repeat (first | exact HB2.out | refine below_drewN ?_ _)⟩
set_option maxHeartbeats 1600000 in
/-- no byte, not nil, no prior error -/
theorem zero_0 (xa : Addr) (c : Nat) (nar sel : Int) (a1 : Addr) (w : World) (hgl : w.cell? ⟨0, 0, none⟩ = some (.iface 38 (.pointer (some a1)))) (h0 : 0 < w.heap.size) (s0 : 0 ≤ sel) (s1 : sel ≤ 255) (hs : sel % 3 = 0) :
    Calls Ybad.prog 3 #[.slice (some xa) 0 c, .int .u8 nar, .int .u8 sel] w fun e w' => e = .returned (.bool true) ∧ Below w.heap.size w w' := by
  obtain ⟨cs, _, hmk⟩ := make_n 0 (by omega) w
  rw [show ((0 : Nat) : Int) = 0 from rfl] at hmk
  obtain ⟨W1, hcp, hB1, hS1⟩ := copy_0 cs (some xa) c w
  have HB1 : Hid (Below w.heap.size w W1) := hB1
  have HS1 : Hid (W1.heap.size = w.heap.size + 1) := hS1
  have hg1 : W1.cell? ⟨0, 0, none⟩ = some (.iface 38 (.pointer (some a1))) := (hB1.cell (p := ⟨0, 0, none⟩) h0).trans hgl
  have hlt : w.heap.size < W1.heap.size := by rw [HS1.out]; omega
  have h01 : 0 < W1.heap.size := by omega
  clear hB1 hS1
  have hq := eql_nil
  have hni := neq_iface
  go_enter Ybad.func3, Ybad.ntmps3
  go_wp2_with fail
  refine (tag_short W1.heap.size a1 (some ⟨w.heap.size, 0, none⟩) 0 0 _ (by omega) (by simp [go_sem]) (by simp [go_sem]) (by simp [go_sem]) (by simp [go_sem, hg1, h01])).mono ?_
  rintro e W2 ⟨rfl, hW2⟩
  have hB2 : Below W1.heap.size W1 W2 := by
    rw [hW2]
    exact ((Below.refl _ _).alloc (Nat.le_refl _) _).setCell (p := ⟨W1.heap.size, 2, none⟩) (Nat.le_refl _) _
  have e0 : W2.cell? ⟨W1.heap.size, 0, none⟩ = some (.slice (some ⟨w.heap.size, 0, none⟩) 0 0) := by rw [hW2]; simp [go_sem]
  have e1 : W2.cell? ⟨W1.heap.size, 1, none⟩ = some (.int .u8 nar) := by rw [hW2]; simp [go_sem]
  have e2 : W2.cell? ⟨W1.heap.size, 2, none⟩ = some (.iface 38 (.pointer (some a1))) := by rw [hW2]; simp [go_sem]
  have eg : W2.cell? ⟨0, 0, none⟩ = some (.iface 38 (.pointer (some a1))) := (hB2.cell (p := ⟨0, 0, none⟩) h01).trans hg1
  have HB2 : Hid (Below w.heap.size w W2) := HB1.out.trans (hB2.mono (Nat.le_of_lt hlt))
  clear hW2 hB2 HB1 hmk hcp hg1
  go_wp2_with fail
  refine (eq0 _ _ _ _ _).mono ?_
  rintro e W3 ⟨rfl, rfl⟩
  go_wp2_with fail
  go_quiet (fail)
  go_wp2_with fail
  refine (eq0 _ _ _ _ _).mono ?_
  rintro e W4 ⟨rfl, rfl⟩
  go_wp2
  go_ret
  exact ⟨rfl, by repeat (first | exact HB2.out | refine below_drewN ?_ _)⟩

set_option maxHeartbeats 1600000 in
/-- no byte, not nil, the prior error is errShortFrame -/
theorem zero_1 (xa : Addr) (c : Nat) (nar sel : Int) (a1 : Addr) (w : World) (hgl : w.cell? ⟨0, 0, none⟩ = some (.iface 38 (.pointer (some a1)))) (h0 : 0 < w.heap.size) (s0 : 0 ≤ sel) (s1 : sel ≤ 255) (hs : sel % 3 = 1) :
    Calls Ybad.prog 3 #[.slice (some xa) 0 c, .int .u8 nar, .int .u8 sel] w fun e w' => e = .returned (.bool true) ∧ Below w.heap.size w w' := by
  obtain ⟨cs, _, hmk⟩ := make_n 0 (by omega) w
  rw [show ((0 : Nat) : Int) = 0 from rfl] at hmk
  obtain ⟨W1, hcp, hB1, hS1⟩ := copy_0 cs (some xa) c w
  have HB1 : Hid (Below w.heap.size w W1) := hB1
  have HS1 : Hid (W1.heap.size = w.heap.size + 1) := hS1
  have hg1 : W1.cell? ⟨0, 0, none⟩ = some (.iface 38 (.pointer (some a1))) := (hB1.cell (p := ⟨0, 0, none⟩) h0).trans hgl
  have hlt : w.heap.size < W1.heap.size := by rw [HS1.out]; omega
  have h01 : 0 < W1.heap.size := by omega
  clear hB1 hS1
  have hq := eql_nil
  have hni := neq_iface
  go_enter Ybad.func3, Ybad.ntmps3
  go_wp2_with fail
  refine (tag_err W1.heap.size a1 _ a1 _ rfl (by simp [go_sem]) (by simp [go_sem]) (by simp [go_sem, hg1, h01])).mono ?_
  rintro e W2 ⟨rfl, hW2⟩
  have hB2 : Below W1.heap.size W1 W2 := by
    rw [hW2]
    exact ((Below.refl _ _).alloc (Nat.le_refl _) _).setCell (p := ⟨W1.heap.size, 2, none⟩) (Nat.le_refl _) _
  have e0 : W2.cell? ⟨W1.heap.size, 0, none⟩ = some (.slice (some ⟨w.heap.size, 0, none⟩) 0 0) := by rw [hW2]; simp [go_sem]
  have e1 : W2.cell? ⟨W1.heap.size, 1, none⟩ = some (.int .u8 nar) := by rw [hW2]; simp [go_sem]
  have e2 : W2.cell? ⟨W1.heap.size, 2, none⟩ = some (.iface 38 (.pointer (some a1))) := by rw [hW2]; simp [go_sem]
  have eg : W2.cell? ⟨0, 0, none⟩ = some (.iface 38 (.pointer (some a1))) := (hB2.cell (p := ⟨0, 0, none⟩) h01).trans hg1
  have HB2 : Hid (Below w.heap.size w W2) := HB1.out.trans (hB2.mono (Nat.le_of_lt hlt))
  clear hW2 hB2 HB1 hmk hcp hg1
  go_wp2_with fail
  refine (eq0 _ _ _ _ _).mono ?_
  rintro e W3 ⟨rfl, rfl⟩
  go_wp2_with fail
  go_quiet (fail)
  go_wp2_with fail
  refine (eq0 _ _ _ _ _).mono ?_
  rintro e W4 ⟨rfl, rfl⟩
  go_wp2
  go_ret
  exact ⟨rfl, by repeat (first | exact HB2.out | refine below_drewN ?_ _)⟩

set_option maxHeartbeats 1600000 in
/-- no byte, not nil, the prior error is another one -/
theorem zero_2 (xa : Addr) (c : Nat) (nar sel : Int) (a1 : Addr) (w : World) (hgl : w.cell? ⟨0, 0, none⟩ = some (.iface 38 (.pointer (some a1)))) (h0 : 0 < w.heap.size) (s0 : 0 ≤ sel) (s1 : sel ≤ 255) (hs : sel % 3 = 2) :
    Calls Ybad.prog 3 #[.slice (some xa) 0 c, .int .u8 nar, .int .u8 sel] w fun e w' => e = .returned (.bool true) ∧ Below w.heap.size w w' := by
  obtain ⟨cs, _, hmk⟩ := make_n 0 (by omega) w
  rw [show ((0 : Nat) : Int) = 0 from rfl] at hmk
  obtain ⟨W1, hcp, hB1, hS1⟩ := copy_0 cs (some xa) c w
  have HB1 : Hid (Below w.heap.size w W1) := hB1
  have HS1 : Hid (W1.heap.size = w.heap.size + 1) := hS1
  have hg1 : W1.cell? ⟨0, 0, none⟩ = some (.iface 38 (.pointer (some a1))) := (hB1.cell (p := ⟨0, 0, none⟩) h0).trans hgl
  have hlt : w.heap.size < W1.heap.size := by rw [HS1.out]; omega
  have h01 : 0 < W1.heap.size := by omega
  clear hB1 hS1
  have hq := eql_nil
  have hni := neq_iface
  go_enter Ybad.func3, Ybad.ntmps3
  go_wp2_with (first | (go_at_call 4; go_in))
  refine (tag_err (W1.heap.size + 1) a1 _ ⟨W1.heap.size, 0, none⟩ _ rfl (by simp [go_sem]) (by simp [go_sem]) (by simp [go_sem, hg1, h01])).mono ?_
  rintro e W2 ⟨rfl, hW2⟩
  have hB2 : Below W1.heap.size W1 W2 := by
    rw [hW2]
    exact (((Below.refl _ _).alloc (Nat.le_refl _) _).alloc (by simp) _).setCell (p := ⟨W1.heap.size + 1, 2, none⟩) (by simp) _
  have e0 : W2.cell? ⟨(W1.heap.size + 1), 0, none⟩ = some (.slice (some ⟨w.heap.size, 0, none⟩) 0 0) := by rw [hW2]; simp [go_sem]
  have e1 : W2.cell? ⟨(W1.heap.size + 1), 1, none⟩ = some (.int .u8 nar) := by rw [hW2]; simp [go_sem]
  have e2 : W2.cell? ⟨(W1.heap.size + 1), 2, none⟩ = some (.iface 38 (.pointer (some a1))) := by rw [hW2]; simp [go_sem]
  have eg : W2.cell? ⟨0, 0, none⟩ = some (.iface 38 (.pointer (some a1))) := (hB2.cell (p := ⟨0, 0, none⟩) h01).trans hg1
  have HB2 : Hid (Below w.heap.size w W2) := HB1.out.trans (hB2.mono (Nat.le_of_lt hlt))
  clear hW2 hB2 HB1 hmk hcp hg1
  go_wp2_with fail
  refine (eq0 _ _ _ _ _).mono ?_
  rintro e W3 ⟨rfl, rfl⟩
  go_wp2_with fail
  go_quiet (fail)
  go_wp2_with fail
  refine (eq0 _ _ _ _ _).mono ?_
  rintro e W4 ⟨rfl, rfl⟩
  go_wp2
  go_ret
  exact ⟨rfl, by repeat (first | exact HB2.out | refine below_drewN ?_ _)⟩
end Go.Proofs.YbulkedxqDoor
