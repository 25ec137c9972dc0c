/-
  LawS6515CWhole: nat.cmp over numbers of no word, one word, two words.
-/
import Derived.Test.YbulkedxcFmtVV
import Derived.LaidEqlPtr
namespace Go.Proofs.YbulkedxcFmt
open Go.RowKit

theorem cmpLt (a a' : Option Addr) (c c' m n : Nat) (w : World) (h : m < n) :
    Calls Ybaf.prog 18 #[.slice a m c, .slice a' n c'] w fun e w' => e = .returned (.int .i64 (-1)) ∧ w' = w := by
  have h1 : ((m : Int) != (n : Int)) = true := by rw [bne_iff_ne]; omega
  go_enter Ybaf.func18, Ybaf.ntmps18
  go_wp2
  go_ret
  exact ⟨rfl, rfl⟩
theorem cmpGt (a a' : Option Addr) (c c' m n : Nat) (w : World) (h : n < m) :
    Calls Ybaf.prog 18 #[.slice a m c, .slice a' n c'] w fun e w' => e = .returned (.int .i64 1) ∧ w' = w := by
  have h1 : ((m : Int) != (n : Int)) = true := by rw [bne_iff_ne]; omega
  have h2 : ¬ ((m : Int) < (n : Int)) := by omega
  go_enter Ybaf.func18, Ybaf.ntmps18
  go_wp2
  go_ret
  exact ⟨rfl, rfl⟩
theorem cmp00 (a a' : Option Addr) (c c' : Nat) (w : World) :
    Calls Ybaf.prog 18 #[.slice a 0 c, .slice a' 0 c'] w fun e w' => e = .returned (.int .i64 0) ∧ w' = w := by
  go_enter Ybaf.func18, Ybaf.ntmps18
  go_wp2
  go_ret
  exact ⟨rfl, rfl⟩


set_option maxHeartbeats 400000 in
theorem cmp11lt (bx cx dy cy : Nat) (x y : Int) (w : World) (hxc : w.cell? ⟨bx, 0, none⟩ = some (.int .u64 x)) (hyc : w.cell? ⟨dy, 0, none⟩ = some (.int .u64 y)) (h : x < y) :
    Calls Ybaf.prog 18 #[.slice (some ⟨bx, 0, none⟩) 1 cx, .slice (some ⟨dy, 0, none⟩) 1 cy] w fun e w' => e = .returned (.int .i64 (-1)) ∧ ∃ n, w' = w.drewN n := by
  go_enter Ybaf.func18, Ybaf.ntmps18
  go_wp2
  refine wp_loop_rounds 1 ?_
  rw [rounds_succ]
  go_wp2_with fail
  go_quiet (fail)
  go_wp2_with fail
  go_quiet (fail)
  go_wp2_with fail
  go_ret
  exact ⟨rfl, _, World.drewN_drewN _ _ _⟩

set_option maxHeartbeats 400000 in
theorem cmp11gt (bx cx dy cy : Nat) (x y : Int) (w : World) (hxc : w.cell? ⟨bx, 0, none⟩ = some (.int .u64 x)) (hyc : w.cell? ⟨dy, 0, none⟩ = some (.int .u64 y)) (h : y < x) :
    Calls Ybaf.prog 18 #[.slice (some ⟨bx, 0, none⟩) 1 cx, .slice (some ⟨dy, 0, none⟩) 1 cy] w fun e w' => e = .returned (.int .i64 (1)) ∧ ∃ n, w' = w.drewN n := by
  have h' : ¬ x < y := by omega
  go_enter Ybaf.func18, Ybaf.ntmps18
  go_wp2
  refine wp_loop_rounds 1 ?_
  rw [rounds_succ]
  go_wp2_with fail
  go_quiet (fail)
  go_wp2_with fail
  go_quiet (fail)
  go_wp2_with fail
  go_quiet (fail)
  go_wp2_with fail
  go_ret
  exact ⟨rfl, _, by rw [World.drewN_drewN, World.drewN_drewN]⟩

set_option maxHeartbeats 400000 in
theorem cmp11eq (bx cx dy cy : Nat) (x y : Int) (w : World) (hxc : w.cell? ⟨bx, 0, none⟩ = some (.int .u64 x)) (hyc : w.cell? ⟨dy, 0, none⟩ = some (.int .u64 y)) (h : y = x) :
    Calls Ybaf.prog 18 #[.slice (some ⟨bx, 0, none⟩) 1 cx, .slice (some ⟨dy, 0, none⟩) 1 cy] w fun e w' => e = .returned (.int .i64 (0)) ∧ ∃ n, w' = w.drewN n := by
  subst h
  go_enter Ybaf.func18, Ybaf.ntmps18
  go_wp2
  refine wp_loop_rounds 1 ?_
  rw [rounds_succ]
  go_wp2_with fail
  go_quiet (fail)
  go_wp2_with fail
  go_quiet (fail)
  go_wp2_with fail
  go_quiet (fail)
  go_wp2_with fail
  go_ret
  exact ⟨rfl, _, by rw [World.drewN_drewN, World.drewN_drewN]⟩

theorem neq_ptr_other {P : Program} (w : World) {tp te : TypeId} {j : TypeInfo} {a b : Addr} {ca cb : Array Value} {ta tb : TypeId} (hp : P.underlying tp = some (.pointer te)) (hte : P.info? te = some j) (hsz : j.size ≠ 0)
    (hne : a ≠ b) (ha : w.heap[a.block]? = some (.cells ca ta (0, 0))) (hb : w.heap[b.block]? = some (.cells cb tb (0, 0))) :
    (binOp .neq tp (.pointer (some a)) (.pointer (some b))).run P w = .ok (.bool true) w := by
  have h : ∀ d : Nat, (Op.equalIn (d + 1) tp (.pointer (some a)) (.pointer (some b))).run P w = .ok false w := fun d => by
    simp [Op.equalIn, run_underlying hp, sizeOf, typeInfo, hte, hsz, run_sameAddr_other w hne ha hb]
  simp only [binOp]
  simp [Op.equal, Op.maxDepth, h 9999]

theorem heap_setCell_same {w : World} {b : Nat} {cs : Array Value} {t : TypeId} {fr : Nat × Nat} (h : w.heap[b]? = some (.cells cs t fr)) (o : Nat) (v : Value) : ∃ cs', (w.setCell ⟨b, o, none⟩ v).heap[b]? = some (.cells cs' t fr) := by
  exact ⟨_, by simp [World.setCell, Array.getElem?_modify, h]; rfl⟩

set_option maxHeartbeats 400000 in
/-- subVW over one word, no borrow left -/
theorem subVW1 (bz oz cz bx ox cx : Nat) (x y : Int) (v : Value) (hx : Word x) (hy : Word y) (w : World) (hne : bz ≠ bx) (hcz : 2 ≤ cz) (hcx : 2 ≤ cx) (csz csx : Array Value) (tz tx : TypeId)
    (hhz : w.heap[bz]? = some (.cells csz tz (0, 0))) (hhx : w.heap[bx]? = some (.cells csx tx (0, 0)))
    (hzc : w.cell? ⟨bz, oz, none⟩ = some v) (hzf : w.frozen? ⟨bz, oz, none⟩ = false) (hxc : w.cell? ⟨bx, ox, none⟩ = some (.int .u64 x)) (hb : bw x y = 0) :
    Calls Ybaf.prog 30 #[.slice (some ⟨bz, oz, none⟩) 1 cz, .slice (some ⟨bx, ox, none⟩) 1 cx, .int .u64 y] w fun e w' =>
      e = .returned (.int .u64 0) ∧ ∃ n, w' = (w.drewN n).setCell ⟨bz, oz, none⟩ (.int .u64 (dl x y)) := by
  have hcn := fun (W : World) (ty : TypeId) (d a : Option Addr) (dc sc : Nat) => run_copy_none (P := Ybaf.prog) W 78 78 ty 92 d a 0 dc 0 sc Ybaf.underlying78 size92 rfl
  have hneq : ∀ W : World, W.heap = (w.setCell ⟨bz, oz, none⟩ (.int .u64 (dl x y))).heap → (binOp .neq 109 (.pointer (some ⟨bz, oz, none⟩)) (.pointer (some ⟨bx, ox, none⟩))).run Ybaf.prog W = .ok (.bool true) W := by
    intro W hW
    obtain ⟨cs', h'⟩ := heap_setCell_same hhz oz (.int .u64 (dl x y))
    refine neq_ptr_other (P := Ybaf.prog) (te := 92) (j := Ybaf.t92) W Ybaf.underlying109 (by kernel_rfl) (by decide +kernel) (by intro h; cases h; exact hne rfl) (ca := cs') (ta := tz) (by rw [hW]; exact h') (cb := csx) (tb := tx) ?_
    rw [hW, Below.heap_setCell _ _ _ _ (Ne.symm hne)]; exact hhx
  have hneq1 := hneq (w.setCell ⟨bz, oz, none⟩ (.int .u64 (dl x y))).drew rfl
  clear hhz hhx hneq
  have k1 : (1 : Int) ≤ (cz : Int) := by omega
  have k3 : ¬ cz = 1 := by omega
  have k4 : ¬ cx = 1 := by omega
  have k2 : (1 : Int) ≤ (cx : Int) := by omega
  go_enter Ybaf.func30, Ybaf.ntmps30
  go_wp2_with (go_at_call 31; refine (bitsSub x y hx hy _).mono ?_; rintro e w' ⟨rfl, rfl⟩)
  go_region
  all_goals go_wp2_with fail
  all_goals go_region
  all_goals go_wp2
  all_goals go_ret
  all_goals exact ⟨rfl, 2, rfl⟩
end Go.Proofs.YbulkedxcFmt
