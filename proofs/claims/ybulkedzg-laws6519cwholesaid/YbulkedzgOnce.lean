/-
  LawS6519CWhole: sync.Once's first call (after the worked example Lazy).
-/
import Derived.Test.YbulkedzgRep
import Derived.Defers
import Derived.Laws.Pointers
import Derived.Laws.LoneSync
import Derived.RegionTactic
import Derived.RegionCalls
import Derived.ChangeAlike
namespace Go.Proofs.Ybulkedzg
open Go.RowKit

theorem disable (w : World) : (callFunc 25 #[]).run Yba.prog w = .ok (.value (.tuple #[])) w := run_call_mark0 Yba.func25 (by kernel_rfl) (by kernel_rfl) (by kernel_rfl) .disable (by kernel_rfl) w
theorem enable (w : World) : (callFunc 27 #[]).run Yba.prog w = .ok (.value (.tuple #[])) w := run_call_mark0 Yba.func27 (by kernel_rfl) (by kernel_rfl) (by kernel_rfl) .enable (by kernel_rfl) w
theorem acquire (a : Addr) (w : World) : (callFunc 28 #[.pointer (some a)]).run Yba.prog w = .ok (.value (.tuple #[])) w := run_call_marked Yba.func28 (by kernel_rfl) (by kernel_rfl) (by kernel_rfl) .acquire (by kernel_rfl) a w
theorem releaseMerge (a : Addr) (w : World) : (callFunc 30 #[.pointer (some a)]).run Yba.prog w = .ok (.value (.tuple #[])) w := run_call_marked Yba.func30 (by kernel_rfl) (by kernel_rfl) (by kernel_rfl) .releaseMerge (by kernel_rfl) a w

theorem store_deferred (a : Addr) (x : Value) (u : FrameMode) (w : World) (hc : w.cell? a = some x) (hz : w.frozen? a = false) :
    CallsD Yba.prog 16 #[.pointer (some a), .bool true] u w fun e u' w' => u' = u ∧ (e = .returned (.tuple #[]) ∧ w' = w.drew.setCell a (.int .u32 1)) := by
  have hc' : w.drew.cell? a = some x := by go_simp
  have hz' : w.drew.frozen? a = false := by go_simp
  have hst := run_call_store (P := Yba.prog) Yba.func21 (by kernel_rfl) (by kernel_rfl) (by kernel_rfl) (by kernel_rfl) (k := .u32) (y := 1) hc' hz'
  go_enter_d Yba.func16, Yba.ntmps16
  go_wp2
  go_region_calls
  all_goals (go_end0; exact ⟨rfl, rfl⟩)

set_option maxRecDepth 100000 in
set_option maxHeartbeats 1600000 in
theorem unlock_deferred (a : Addr) (u : FrameMode) (w : World) (hc : w.cell? a = some (.int .i32 1)) (hz : w.frozen? a = false) :
    CallsD Yba.prog 15 #[.pointer (some a)] u w fun e u' w' => u' = u ∧ (e = .returned (.tuple #[]) ∧ w' = w.setCell a (.int .i32 0)) := by
  have hd := disable
  have he := enable
  have hr := releaseMerge
  have hadd := run_call_add (P := Yba.prog) Yba.func31 (by kernel_rfl) (by kernel_rfl) (by kernel_rfl) .i32 (by kernel_rfl) (y := -1) (s := 0) hc hz (by simp [go_sem]; rfl)
  have hcv := run_convert_to_unsafe (P := Yba.prog) (src := 77) (dst := 81) Yba.underlying77 Yba.underlying81 (by kernel_rfl) hc
  go_enter_d Yba.func15, Yba.ntmps15
  go_wp2
  go_end0
  go_wp2
  go_end0
  exact ⟨rfl, rfl⟩

set_option maxRecDepth 100000 in
set_option maxHeartbeats 1600000 in
theorem lock_free (a : Addr) (w : World) (hc : w.cell? a = some (.int .i32 0)) (hz : w.frozen? a = false) :
    Calls Yba.prog 14 #[.pointer (some a)] w fun e w' => e = .returned (.tuple #[]) ∧ w' = w.setCell a (.int .i32 1) := by
  have hd := disable
  have he := enable
  have ha := acquire
  have hcas := run_call_cas_hit (P := Yba.prog) Yba.func26 (by kernel_rfl) (by kernel_rfl) (by kernel_rfl) .i32 (by kernel_rfl) (y := 1) hc hz
  have hc' : (w.setCell a (.int .i32 1)).cell? a = some (.int .i32 1) := World.cell?_setCell_same w a _ hc
  have hcv := run_convert_to_unsafe (P := Yba.prog) (src := 77) (dst := 81) Yba.underlying77 Yba.underlying81 (by kernel_rfl) hc'
  go_enter Yba.func14, Yba.ntmps14
  go_wp2
  first | go_end0 | (simp only [Exit.inBlock, Exit.then]; refine bodyPost_ret (results_none rfl _ _ _) rfl ?_) | refine bodyPost_ret (results_none rfl _ _ _) rfl ?_
  go_wp2
  go_end0
  exact ⟨rfl, rfl⟩

/-- what the function handed to Do leaves of the Once -/
structure OnceAt (W : World) (p : Nat) : Prop where
  h0 : W.cell? ⟨p, 0, none⟩ = some (.int .u32 0)
  h1 : W.cell? ⟨p, 1, none⟩ = some (.int .i32 1)
  f0 : W.frozen? ⟨p, 0, none⟩ = false
  f1 : W.frozen? ⟨p, 1, none⟩ = false

set_option maxRecDepth 100000 in
set_option maxHeartbeats 1600000 in
theorem slow_any (p : Nat) (Q : World → Prop) (w : World)
    (h0 : w.cell? ⟨p, 0, none⟩ = some (.int .u32 0)) (h1 : w.cell? ⟨p, 1, none⟩ = some (.int .i32 0))
    (f1 : w.frozen? ⟨p, 1, none⟩ = false)
    (hf : Calls Yba.prog 9 #[.pointer (some ⟨p, 0, none⟩)] (w.setCell ⟨p, 1, none⟩ (.int .i32 1)) fun e w2 => e = .returned (.tuple #[]) ∧ (OnceAt w2 p ∧ Q w2)) :
    Calls Yba.prog 11 #[.pointer (some ⟨p, 0, none⟩), .func (.func 9) #[.pointer (some ⟨p, 0, none⟩)] #[]] w fun e w' => e = .returned (.tuple #[]) ∧
      ∃ w2, OnceAt w2 p ∧ Q w2 ∧ w' = (w2.drew.setCell ⟨p, 0, none⟩ (.int .u32 1)).setCell ⟨p, 1, none⟩ (.int .i32 0) := by
  have hl := run_call_load (P := Yba.prog) Yba.func13 (by kernel_rfl) (by kernel_rfl) (by kernel_rfl) .u32 (by kernel_rfl) (w := w.setCell ⟨p, 1, none⟩ (.int .i32 1)) (a := ⟨p, 0, none⟩) (x := 0) ((World.cell?_setCell_other _ ⟨p, 1, none⟩ ⟨p, 0, none⟩ _ (by simp)).trans h0)
  have hnot : ∀ (x : Bool) (w : World), (Op.unary .not (.bool x)).run Yba.prog w = .ok (.bool (!x)) w := fun _ _ => rfl
  have HF : Hid (Calls Yba.prog 9 #[.pointer (some ⟨p, 0, none⟩)] (w.setCell ⟨p, 1, none⟩ (.int .i32 1)) fun e w2 => e = .returned (.tuple #[]) ∧ (OnceAt w2 p ∧ Q w2)) := hf
  clear hf
  go_enter_defers Yba.func11, Yba.ntmps11
  go_wp2_with (go_at_call 14; refine (lock_free ⟨p, 1, none⟩ _ (by go_simp) (by go_simp)).mono ?_; rintro e w' ⟨rfl, rfl⟩)
  go_wp2_with (first | (go_at_call 9; refine HF.out.mono ?_; rintro e w2 ⟨rfl, hO, hQ⟩) | (go_at_call 10; go_in))
  have HO : Hid (OnceAt w2 p) := hO
  have HQ : Hid (Q w2) := hQ
  clear hO hQ
  refine leaves_cons (f := 16) (args := #[.pointer (some ⟨p, 0, none⟩), .bool true]) (by simp) (by simp [go_sem]) ?_
  refine (store_deferred ⟨p, 0, none⟩ (.int .u32 0) .returning _ HO.out.h0 HO.out.f0).mono ?_
  rintro e u' w'' ⟨rfl, rfl, rfl⟩
  refine leaves_cons (f := 15) (args := #[.pointer (some ⟨p, 1, none⟩)]) (by simp [settle]) (by simp [go_sem]) ?_
  refine (unlock_deferred ⟨p, 1, none⟩ _ _ ?_ (by simp [HO.out.f1])).mono ?_
  · refine (World.cell?_setCell_other _ ⟨p, 0, none⟩ ⟨p, 1, none⟩ _ (by simp)).trans ?_
    rw [World.cell?_drew]
    exact HO.out.h1
  rintro e u' w'' ⟨rfl, rfl, rfl⟩
  simp [Leaves, settle, results, Yba.results11]
  exact ⟨w2, HO.out, HQ.out, rfl⟩

set_option maxRecDepth 100000 in
set_option maxHeartbeats 1600000 in
/-- 'Once.Do', not yet done, the lock free. -/
theorem do_first (p : Nat) (Q : World → Prop) (w : World)
    (h0 : w.cell? ⟨p, 0, none⟩ = some (.int .u32 0)) (h1 : w.cell? ⟨p, 1, none⟩ = some (.int .i32 0))
    (f1 : w.frozen? ⟨p, 1, none⟩ = false)
    (hf : Calls Yba.prog 9 #[.pointer (some ⟨p, 0, none⟩)] (w.setCell ⟨p, 1, none⟩ (.int .i32 1)) fun e w2 => e = .returned (.tuple #[]) ∧ (OnceAt w2 p ∧ Q w2)) :
    Calls Yba.prog 8 #[.pointer (some ⟨p, 0, none⟩), .func (.func 9) #[.pointer (some ⟨p, 0, none⟩)] #[]] w fun e w' => e = .returned (.tuple #[]) ∧
      ∃ w2, OnceAt w2 p ∧ Q w2 ∧ w' = (w2.drew.setCell ⟨p, 0, none⟩ (.int .u32 1)).setCell ⟨p, 1, none⟩ (.int .i32 0) := by
  have hl := run_call_load (P := Yba.prog) Yba.func13 (by kernel_rfl) (by kernel_rfl) (by kernel_rfl) .u32 (by kernel_rfl) h0
  have hnot : ∀ (x : Bool) (w : World), (Op.unary .not (.bool x)).run Yba.prog w = .ok (.bool (!x)) w := fun _ _ => rfl
  have HF : Hid (Calls Yba.prog 9 #[.pointer (some ⟨p, 0, none⟩)] (w.setCell ⟨p, 1, none⟩ (.int .i32 1)) fun e w2 => e = .returned (.tuple #[]) ∧ (OnceAt w2 p ∧ Q w2)) := hf
  clear hf
  go_enter Yba.func8, Yba.ntmps8
  go_wp2_with (first | (go_at_call 11; refine (slow_any p Q _ h0 h1 f1 HF.out).mono ?_; rintro e w' ⟨rfl, hE⟩) | (go_at_call 10; go_in))
  go_end0
  exact ⟨rfl, hE⟩
end Go.Proofs.Ybulkedzg
