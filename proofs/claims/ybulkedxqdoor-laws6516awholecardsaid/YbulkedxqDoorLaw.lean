/-
  LawS6516AWhole: the walks of the law.
-/
import Derived.Test.YbulkedxqDoorMake
namespace Go.Proofs.YbulkedxqDoor
open Go.RowKit

theorem eql_nil (W : World) (a : Option Addr) (n c : Nat) : (binOp .eql 22 (.slice a n c) (.slice none 0 0)).run Ybad.prog W = .ok (.bool a.isNone) W := Lib.run_eql_slice_nil W 22 5 a n c 0 0 Ybad.underlying22

theorem beI7 (x : Nat → Int) (hx : Byt x) (k : Nat) (hk : k ≤ 7) : beI x k < 72057594037927936 := by
  have h1 := (beI_lt x hx k).2
  have h2 : 256 ^ k ≤ 256 ^ 7 := Nat.pow_le_pow_right (by decide) hk
  have e : (256 : Int) ^ k = ((256 ^ k : Nat) : Int) := by simp
  rw [e] at h1
  have h3 : 256 ^ 7 = 72057594037927936 := by decide
  rw [h3] at h2
  generalize 256 ^ k = M at *
  omega

theorem quiet_of2 {P : Program} {f : FuncId} {args : Array Value} {w : World} {a n : Nat} {v : Value}
    (h : Calls P f args (w.drewN (a + n)) fun e w' => e = .returned v ∧ ∃ m, w' = (w.drewN (a + n)).drewN m) : Calls P f args (w.drewN (a + n)) fun e w'' => e = .returned v ∧ ∃ m, w'' = w.drewN (a + m) :=
  h.mono fun _ _ ⟨he, m, hm⟩ => ⟨he, n + m, by rw [hm, World.drewN_drewN, Nat.add_assoc]⟩

theorem neq_same (W : World) (a : Addr) : (binOp .neq 36 (.pointer (some a)) (.pointer (some a))).run Ybad.prog W = .ok (.bool false) W :=
  Lib.run_neq_ptr_same (P := Ybad.prog) W (te := 5) (j := Ybad.t5) a Ybad.underlying36 (by kernel_rfl)

theorem quiet_same2 {P : Program} {f : FuncId} {args : Array Value} {w : World} {a n : Nat} {v : Value}
    (h : Calls P f args (w.drewN (a + n)) fun e w' => e = .returned v ∧ w' = w.drewN (a + n)) : Calls P f args (w.drewN (a + n)) fun e w'' => e = .returned v ∧ ∃ m, w'' = w.drewN (a + m) :=
  h.mono fun _ _ ⟨he, hm⟩ => ⟨he, n, hm⟩

/-- err != errShortFrame, at one and the same pointer -/
theorem neq_iface (W : World) (a : Addr) : (binOp .neq 24 (.iface 38 (.pointer (some a))) (.iface 38 (.pointer (some a)))).run Ybad.prog W = .ok (.bool false) W := by
  have h := run_equalIn_iface_ptr_same (P := Ybad.prog) W 9998 (i := Ybad.t38) (j := Ybad.t40) a Ybad.underlying24 Ybad.underlying38 (by kernel_rfl) (by kernel_rfl) (by kernel_rfl)
  simp only [binOp]
  simp [Op.equal, Op.maxDepth, h]

theorem copy_0 (cs : Array Value) (a : Option Addr) (c : Nat) (w : World) :
    ∃ W : World, (∀ ty, (Builtin.copy_ #[22, 22] ty #[.slice (some ⟨w.heap.size, 0, none⟩) 0 0, .slice a 0 c]).run Ybad.prog (w.alloc (.cells cs 5)) = .ok (goInt 0) W) ∧
      Below w.heap.size w W ∧ W.heap.size = w.heap.size + 1 :=
  ⟨w.alloc (.cells cs 5), fun ty => run_copy_none (P := Ybad.prog) _ 22 22 ty 5 _ _ 0 0 0 c Ybad.underlying22 size5 rfl, (Below.refl _ w).alloc (Nat.le_refl _) _, by simp⟩

set_option maxHeartbeats 1600000 in
/-- more than eight bytes, no prior error -/
theorem law_more (g o n c : Nat) (x : Nat → Int) (hx : Byt x) (nar sel : Int) (w : World) (hn : 8 < n) (hn' : n ≤ 1048576) (hnc : n ≤ c) (hg : g < w.heap.size) (hc : ∀ j, j < n → w.cell? ⟨g, o + j, none⟩ = some (.int .u8 (x j))) (s0 : 0 ≤ sel) (s1 : sel ≤ 255) (hs : sel % 3 = 0) :
    Calls Ybad.prog 3 #[.slice (some ⟨g, o, none⟩) n c, .int .u8 nar, .int .u8 sel] w fun e w' => e = .returned (.bool true) ∧ Below w.heap.size w w' := by
  obtain ⟨cs, hcs, hmk⟩ := make_n n hn' w
  obtain ⟨W1, hcp, hB1, hS1, hc1⟩ := copy_n n g o c x cs hcs w hg hc
  have HX : Hid (Byt x) := hx
  have HB1 : Hid (Below w.heap.size w W1) := hB1
  have HC1 : Hid (∀ j, j < n → W1.cell? ⟨w.heap.size, j, none⟩ = some (.int .u8 (x j))) := hc1
  have HC : Hid (∀ j, j < n → W1.cell? ⟨g, o + j, none⟩ = some (.int .u8 (x j))) := fun j hj => (hB1.cell (p := ⟨g, o + j, none⟩) hg).trans (hc j hj)
  have HS1 : Hid (W1.heap.size = w.heap.size + 1) := hS1
  clear hB1 hc1 hc hx hS1
  have hq := eql_nil
  go_enter Ybad.func3, Ybad.ntmps3
  go_wp2_with fail
  have hlt : w.heap.size < W1.heap.size := by rw [HS1.out]; omega
  refine (tag_more W1.heap.size w.heap.size n x HX.out _ hn hn' (by simp; omega) (by omega) (by simp [go_sem]) (by simp [go_sem]) (by simp [go_sem]) (fun j hj => by rw [World.cell?_alloc_past _ _ _ hlt]; exact HC1.out j hj)).mono ?_
  rintro e W2 ⟨rfl, m, hW2⟩
  have hB2 : Below W1.heap.size W1 W2 := by
    rw [hW2]
    exact below_drewN ((((Below.refl _ _).alloc (Nat.le_refl _) _).setCell (p := ⟨W1.heap.size, 0, none⟩) (Nat.le_refl _) _).alloc (by simp) _) _
  have e0 : W2.cell? ⟨W1.heap.size, 0, none⟩ = some (.slice (some ⟨w.heap.size, 8, none⟩) (n - 8) (n - 8)) := by rw [hW2]; simp [go_sem]
  have e1 : W2.cell? ⟨W1.heap.size, 1, none⟩ = some (.int .u8 nar) := by rw [hW2]; simp [go_sem]
  have e2 : W2.cell? ⟨W1.heap.size, 2, none⟩ = some .nilIface := by rw [hW2]; simp [go_sem]
  have HB2 : Hid (Below w.heap.size w W2) := HB1.out.trans (hB2.mono (Nat.le_of_lt hlt))
  have HC2 : Hid (∀ j, j < n → W2.cell? ⟨w.heap.size, j, none⟩ = some (.int .u8 (x j))) := fun j hj => (hB2.cell (p := ⟨w.heap.size, j, none⟩) hlt).trans (HC1.out j hj)
  have HD2 : Hid (∀ j, j < n → W2.cell? ⟨g, o + j, none⟩ = some (.int .u8 (x j))) := fun j hj => (hB2.cell (p := ⟨g, o + j, none⟩) (by simp; omega)).trans (HC.out j hj)
  clear hW2 hB2 HC HC1 HB1 hmk hcp
  go_wp2_with fail
  refine (eqN w.heap.size 0 n g o c n x _ hn' (fun j hj => by rw [Nat.zero_add]; exact HC2.out j hj) (by exact HD2.out)).mono ?_
  rintro e W3 ⟨rfl, m3, rfl⟩
  go_wp2_with fail
  go_loop [11, 12] (fun v i => ∃ k : Nat, k ≤ 8 ∧ i = .int .i64 k ∧ v = .int .u64 (beI x k)) (fun _ i => 8 - (intOf i).toNat)
  case atStart => exact ⟨0, by omega, rfl, rfl⟩
  case round =>
    obtain ⟨k, hk, rfl, rfl⟩ := hrel
    by_cases hk8 : k < 8
    · have hcell := HD2.out k (by omega)
      have b1 := beI_lt x HX.out k
      have b2 := beI7 x HX.out k (by omega)
      have HS : Hid (bits .or .u64 (IntKind.u64.wrap (beI x k * 256)) (IntKind.u64.wrap (x k)) = beI x (k + 1)) := be_step _ _ b1.1 b2 (HX.out k).1 (HX.out k).2
      have hi : (k : Int) < (n : Int) := by omega
      clear b1 b2
      go_wp2
      go_round
      case rel => exact ⟨k + 1, by omega, by go_num, by rw [← HS.out]⟩
      case measure => simp [intOf]; omega
    · have : k = 8 := by omega
      subst this
      have hne := neq_same
      have k1 : (8 : Int) ≤ (n : Int) := by omega
      have k2 : ¬ c = 8 := by omega
      have k3 : (n : Int) ≤ (c : Int) := by omega
      go_wp2_with fail
      go_quiet ((go_at_call 6; exact quiet_of2 (eqN w.heap.size 8 (n - 8) g (o + 8) (c - 8) (n - 8) (fun j => x (8 + j)) _ (by omega) (fun j hj => HC2.out (8 + j) (by omega)) (fun j hj => by have := HD2.out (8 + j) (by omega); rwa [← Nat.add_assoc] at this))))
      have k4 : 0 < n - 8 := by omega
      go_wp2_with fail
      go_quiet (fail)
      go_wp2_with fail
      go_ret
      exact ⟨rfl, by repeat (first | exact HB2.out | refine below_drewN ?_ _)⟩

set_option maxHeartbeats 1600000 in
/-- eight bytes, no prior error -/
theorem law_eight (g o c : Nat) (x : Nat → Int) (hx : Byt x) (nar sel : Int) (w : World) (hnc : 8 ≤ c) (hg : g < w.heap.size) (hc : ∀ j, j < 8 → w.cell? ⟨g, o + j, none⟩ = some (.int .u8 (x j))) (s0 : 0 ≤ sel) (s1 : sel ≤ 255) (hs : sel % 3 = 0) :
    Calls Ybad.prog 3 #[.slice (some ⟨g, o, none⟩) 8 c, .int .u8 nar, .int .u8 sel] w fun e w' => e = .returned (.bool true) ∧ Below w.heap.size w w' := by
  obtain ⟨cs, hcs, hmk⟩ := make_n 8 (by omega) w
  obtain ⟨W1, hcp, hB1, hS1, hc1⟩ := copy_n 8 g o c x cs hcs w hg hc
  rw [show ((8 : Nat) : Int) = 8 from rfl] at hmk
  rw [show ((8 : Nat) : Int) = 8 from rfl] at hcp
  have HX : Hid (Byt x) := hx
  have HB1 : Hid (Below w.heap.size w W1) := hB1
  have HC1 : Hid (∀ j, j < 8 → W1.cell? ⟨w.heap.size, j, none⟩ = some (.int .u8 (x j))) := hc1
  have HC : Hid (∀ j, j < 8 → W1.cell? ⟨g, o + j, none⟩ = some (.int .u8 (x j))) := fun j hj => (hB1.cell (p := ⟨g, o + j, none⟩) hg).trans (hc j hj)
  have HS1 : Hid (W1.heap.size = w.heap.size + 1) := hS1
  clear hB1 hc1 hc hx hS1
  have hq := eql_nil
  go_enter Ybad.func3, Ybad.ntmps3
  go_wp2_with fail
  have hlt : w.heap.size < W1.heap.size := by rw [HS1.out]; omega
  refine (tag_eight W1.heap.size w.heap.size x HX.out _ (by simp; omega) (by omega) (by simp [go_sem]) (by simp [go_sem]) (by simp [go_sem]) (fun j hj => by rw [World.cell?_alloc_past _ _ _ hlt]; exact HC1.out j hj)).mono ?_
  rintro e W2 ⟨rfl, m, hW2⟩
  have hB2 : Below W1.heap.size W1 W2 := by
    rw [hW2]
    exact below_drewN ((((Below.refl _ _).alloc (Nat.le_refl _) _).setCell (p := ⟨W1.heap.size, 0, none⟩) (Nat.le_refl _) _).alloc (by simp) _) _
  have e0 : W2.cell? ⟨W1.heap.size, 0, none⟩ = some (.slice (some ⟨w.heap.size, 0, none⟩) 0 0) := by rw [hW2]; simp [go_sem]
  have e1 : W2.cell? ⟨W1.heap.size, 1, none⟩ = some (.int .u8 nar) := by rw [hW2]; simp [go_sem]
  have e2 : W2.cell? ⟨W1.heap.size, 2, none⟩ = some .nilIface := by rw [hW2]; simp [go_sem]
  have HB2 : Hid (Below w.heap.size w W2) := HB1.out.trans (hB2.mono (Nat.le_of_lt hlt))
  have HC2 : Hid (∀ j, j < 8 → W2.cell? ⟨w.heap.size, j, none⟩ = some (.int .u8 (x j))) := fun j hj => (hB2.cell (p := ⟨w.heap.size, j, none⟩) hlt).trans (HC1.out j hj)
  have HD2 : Hid (∀ j, j < 8 → W2.cell? ⟨g, o + j, none⟩ = some (.int .u8 (x j))) := fun j hj => (hB2.cell (p := ⟨g, o + j, none⟩) (by simp; omega)).trans (HC.out j hj)
  clear hW2 hB2 HC HC1 HB1 hmk hcp
  go_wp2_with fail
  refine (eqN w.heap.size 0 8 g o c 8 x _ (by omega) (fun j hj => by rw [Nat.zero_add]; exact HC2.out j hj) (by exact HD2.out)).mono ?_
  rintro e W3 ⟨rfl, m3, rfl⟩
  go_wp2_with fail
  go_loop [11, 12] (fun v i => ∃ k : Nat, k ≤ 8 ∧ i = .int .i64 k ∧ v = .int .u64 (beI x k)) (fun _ i => 8 - (intOf i).toNat)
  case atStart => exact ⟨0, by omega, rfl, rfl⟩
  case round =>
    obtain ⟨k, hk, rfl, rfl⟩ := hrel
    by_cases hk8 : k < 8
    · have hcell := HD2.out k (by omega)
      have b1 := beI_lt x HX.out k
      have b2 := beI7 x HX.out k (by omega)
      have HS : Hid (bits .or .u64 (IntKind.u64.wrap (beI x k * 256)) (IntKind.u64.wrap (x k)) = beI x (k + 1)) := be_step _ _ b1.1 b2 (HX.out k).1 (HX.out k).2
      clear b1 b2
      go_wp2
      go_round
      case rel => exact ⟨k + 1, by omega, by go_num, by rw [← HS.out]⟩
      case measure => simp [intOf]; omega
    · have : k = 8 := by omega
      subst this
      have k3 : (8 : Int) ≤ (c : Int) := by omega
      go_wp2_with fail
      go_quiet ((go_at_call 6; exact quiet_same2 (eq0 _ _ _ _ _)))
      go_wp2_with fail
      all_goals
        go_quiet (fail)
        go_wp2_with fail
        go_ret
        exact ⟨rfl, by repeat (first | exact HB2.out | refine below_drewN ?_ _)⟩
end Go.Proofs.YbulkedxqDoor
