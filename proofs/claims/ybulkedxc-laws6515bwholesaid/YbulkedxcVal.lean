/-
  LawS6515BWhole: a note read back.
-/
import Derived.Test.YbulkedxcSm
import Derived.Laws.ResultCell
namespace Go.Proofs.Ybulkedxc
open Go.RowKit

theorem results_row_tmp {P : Program} {fn : Func} {p u : Tmp} {ty : TypeId} (h : fn.results = #[.cell p ty, .tmp u]) (tmps : Array Value) (w : World) (g : Nat) (t : TypeId) (cs : Array Value) (fr : Nat × Nat) (d : TypeDesc)
    (hp : tmps.getD p undef = .pointer (some ⟨g, 0, none⟩)) (hg : w.heap[g]? = some (.cells cs t fr)) (hu : P.underlying ty = some d) (hd : (match d with | .struct _ | .array _ _ => true | _ => false) = true) (hi : (P.info? ty).map (·.size) = some cs.size) :
    (results fn tmps).run P w = .ok (.tuple #[.agg cs, tmps.getD u undef]) w := by
  rw [results_cell_tmp h, hp]
  simp [asAddr, run_loadVar_row w g t ty cs fr d hg hu hd hi]

theorem as_ptr (a : Addr) (w : World) : (Instr.typeAssert (.iface 122 (.pointer (some a))) 125 122 true).run Yba.prog w = .ok (.tuple #[.pointer (some a), .bool true]) w := by kernel_rfl
theorem as_ptr_no (s : ByteArray) (n : Int) (w : World) : (Instr.typeAssert (.iface 121 (.agg #[.string s, .int .i64 n])) 125 122 true).run Yba.prog w = .ok (.tuple #[.pointer none, .bool false]) w := by kernel_rfl
theorem as_plain (s : ByteArray) (n : Int) (w : World) : (Instr.typeAssert (.iface 121 (.agg #[.string s, .int .i64 n])) 125 121 true).run Yba.prog w = .ok (.tuple #[.agg #[.string s, .int .i64 n], .bool true]) w := by kernel_rfl

set_option maxRecDepth 100000 in
theorem value12_plain (s : ByteArray) (n : Int) (w : World) : Calls Yba.prog 12 #[.iface 121 (.agg #[.string s, .int .i64 n])] w fun e w' => e = .returned (.tuple #[.agg #[.string s, .int .i64 n], .bool true]) ∧ Below w.heap.size w w' := by
  have a1 := as_ptr_no
  have a2 := as_plain
  go_enter Yba.func12, Yba.ntmps12
  go_wp2
  (try simp only [Exit.inBlock, Exit.then])
  refine bodyPost_ret (results_row_tmp rfl _ _ w.heap.size 121 #[.string s, .int .i64 n] (0, 0) _ rfl (by rw [heap_alloc_old _ _ (by simp)]; exact heap_alloc_new w _) Yba.underlying121 rfl (by kernel_rfl)) rfl ?_
  exact ⟨rfl, ((Below.refl _ _).alloc (Nat.le_refl _) _).alloc (by simp) _⟩

set_option maxRecDepth 100000 in
theorem value12_ptr (p : Nat) (s : ByteArray) (n : Int) (w : World) (hp : p < w.heap.size) (h0 : w.cell? ⟨p, 0, none⟩ = some (.string s)) (h1 : w.cell? ⟨p, 1, none⟩ = some (.int .i64 n)) : Calls Yba.prog 12 #[.iface 122 (.pointer (some ⟨p, 0, none⟩))] w fun e w' => e = .returned (.tuple #[.agg #[.string s, .int .i64 n], .bool true]) ∧ Below w.heap.size w w' := by
  have a1 := as_ptr
  have h0' : (w.alloc (.cells #[.string ⟨#[]⟩, .int .i64 0] 121)).cell? ⟨p, 0, none⟩ = some (.string s) := by rw [World.cell?_alloc_past _ _ _ hp]; exact h0
  have h1' : (w.alloc (.cells #[.string ⟨#[]⟩, .int .i64 0] 121)).cell? ⟨p, 1, none⟩ = some (.int .i64 n) := by rw [World.cell?_alloc_past _ _ _ hp]; exact h1
  go_enter Yba.func12, Yba.ntmps12
  go_wp2
  (try simp only [Exit.inBlock, Exit.then])
  refine bodyPost_ret (results_row_tmp rfl _ _ w.heap.size 121 #[.string s, .int .i64 n] (0, 0) _ rfl (heap_alloc_new w _) Yba.underlying121 rfl (by kernel_rfl)) rfl ?_
  exact ⟨rfl, (Below.refl _ _).alloc (Nat.le_refl _) _⟩
end Go.Proofs.Ybulkedxc
