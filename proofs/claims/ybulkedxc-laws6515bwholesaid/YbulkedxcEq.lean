/-
  LawS6515BWhole: comparisons.
-/
import Derived.Test.YbulkedxcT21
namespace Go.Proofs.Ybulkedxc
open Go.RowKit
attribute [local simp] setO_size setT_same
set_option linter.unusedSimpArgs false
set_option linter.unusedVariables false
set_option linter.unnecessarySimpa false
set_option maxRecDepth 100000

theorem neq_121 (s : ByteArray) (n : Int) (w : World) : (binOp .neq 121 (.agg #[.string s, .int .i64 n]) (.agg #[.string s, .int .i64 n])).run Yba.prog w = .ok (.bool false) w := by
  simp [go_sem, Yba.underlying121]
theorem neq_102 (a b : Int) (w : World) : (binOp .neq 102 (.agg #[.int .i32 a, .int .i32 b]) (.agg #[.int .i32 a, .int .i32 b])).run Yba.prog w = .ok (.bool false) w := by
  simp [go_sem, Yba.underlying102]
theorem neq_113 (a b : Int) (s t : ByteArray) (w : World) : (binOp .neq 113 (.agg #[.int .u8 a, .int .i64 b, .string s, .string t]) (.agg #[.int .u8 a, .int .i64 b, .string s, .string t])).run Yba.prog w = .ok (.bool false) w := by
  simp [go_sem, Yba.underlying113]
theorem neq_30 (a b c d e f g h : Int) (w : World) : (binOp .neq 30 (.agg #[.int .i64 a, .int .i64 b, .int .i64 c, .int .i64 d, .int .i64 e, .int .i64 f, .int .i64 g, .int .i64 h]) (.agg #[.int .i64 a, .int .i64 b, .int .i64 c, .int .i64 d, .int .i64 e, .int .i64 f, .int .i64 g, .int .i64 h])).run Yba.prog w = .ok (.bool false) w := by
  simp [go_sem, Yba.underlying30]
theorem same_addr (a : Addr) (w : World) : (sameAddr a a).run Yba.prog w = .ok true w := by simp [sameAddr]
theorem equal_ptr (d : Nat) (t e : TypeId) (i : TypeInfo) (h : Yba.prog.underlying t = some (.pointer e)) (hi : Yba.prog.info? e = some i) (hz : i.size ≠ 0) (a : Addr) (w : World) : (Op.equalIn (d + 1) t (.pointer (some a)) (.pointer (some a))).run Yba.prog w = .ok true w := by
  simp [Op.equalIn, run_underlying h, sizeOf, typeInfo, hi, hz, same_addr]
theorem size107 : ∃ i, Yba.prog.info? 107 = some i ∧ i.size ≠ 0 := ⟨_, rfl, by decide⟩
theorem size116 : ∃ i, Yba.prog.info? 116 = some i ∧ i.size ≠ 0 := ⟨_, rfl, by decide⟩
theorem size139 : ∃ i, Yba.prog.info? 139 = some i ∧ i.size ≠ 0 := ⟨_, rfl, by decide⟩
theorem size121 : ∃ i, Yba.prog.info? 121 = some i ∧ i.size ≠ 0 := ⟨_, rfl, by decide⟩
theorem neq_of_i {t u : TypeId} {x : Value} {w : World} (h : (Op.equalIn 10000 t (.iface u x) (.iface u x)).run Yba.prog w = .ok true w) : (binOp .neq t (.iface u x) (.iface u x)).run Yba.prog w = .ok (.bool false) w := by
  simp only [binOp]
  simp [Op.equal, Op.maxDepth, h]
theorem neq_of_p {t : TypeId} {a : Addr} {w : World} (h : (Op.equalIn 10000 t (.pointer (some a)) (.pointer (some a))).run Yba.prog w = .ok true w) : (binOp .neq t (.pointer (some a)) (.pointer (some a))).run Yba.prog w = .ok (.bool false) w := by
  simp only [binOp]
  simp [Op.equal, Op.maxDepth, h]
theorem equal_iface (d : Nat) (t u : TypeId) (ms : Array (String × TypeId)) (i : TypeInfo) (h : Yba.prog.underlying t = some (.interface ms)) (hi : Yba.prog.info? u = some i) (hc : i.comparable = true) (x : Value) (w : World) (hx : (Op.equalIn d u x x).run Yba.prog w = .ok true w) : (Op.equalIn (d + 1) t (.iface u x) (.iface u x)).run Yba.prog w = .ok true w := by
  simp [Op.equalIn, run_underlying h, typeInfo, hi, hc, hx]
theorem cmp121 : ∃ i, Yba.prog.info? 121 = some i ∧ i.comparable = true := ⟨_, rfl, by decide⟩
theorem cmp122 : ∃ i, Yba.prog.info? 122 = some i ∧ i.comparable = true := ⟨_, rfl, by decide⟩
theorem cmp136 : ∃ i, Yba.prog.info? 136 = some i ∧ i.comparable = true := ⟨_, rfl, by decide⟩
theorem neq_plain (s : ByteArray) (n : Int) (w : World) : (binOp .neq 125 (.iface 121 (.agg #[.string s, .int .i64 n])) (.iface 121 (.agg #[.string s, .int .i64 n]))).run Yba.prog w = .ok (.bool false) w := by
  obtain ⟨i, hi, hc⟩ := cmp121
  refine neq_of_i (equal_iface 9999 125 121 _ i Yba.underlying125 hi hc _ w ?_)
  simp [go_sem, Yba.underlying121]
theorem neq_ptr (a : Addr) (w : World) : (binOp .neq 125 (.iface 122 (.pointer (some a))) (.iface 122 (.pointer (some a)))).run Yba.prog w = .ok (.bool false) w := by
  obtain ⟨i, hi, hc⟩ := cmp122
  obtain ⟨i', hi', hz⟩ := size121
  exact neq_of_i (equal_iface 9999 125 122 _ i Yba.underlying125 hi hc _ w (equal_ptr 9998 122 121 i' Yba.underlying122 hi' hz a w))
theorem neq_err (a : Addr) (w : World) : (binOp .neq 98 (.iface 136 (.pointer (some a))) (.iface 136 (.pointer (some a)))).run Yba.prog w = .ok (.bool false) w := by
  obtain ⟨i, hi, hc⟩ := cmp136
  obtain ⟨i', hi', hz⟩ := size139
  exact neq_of_i (equal_iface 9999 98 136 _ i Yba.underlying98 hi hc _ w (equal_ptr 9998 136 139 i' Yba.underlying136 hi' hz a w))
theorem neq_nile (w : World) : (binOp .neq 98 .nilIface .nilIface).run Yba.prog w = .ok (.bool false) w := by
  simp [go_sem, Yba.underlying98]
theorem neq_96 (a : Addr) (w : World) : (binOp .neq 96 (.pointer (some a)) (.pointer (some a))).run Yba.prog w = .ok (.bool false) w := by
  obtain ⟨i', hi', hz⟩ := size107
  exact neq_of_p (equal_ptr 9999 96 107 i' Yba.underlying96 hi' hz a w)
theorem neq_99 (a : Addr) (w : World) : (binOp .neq 99 (.pointer (some a)) (.pointer (some a))).run Yba.prog w = .ok (.bool false) w := by
  obtain ⟨i', hi', hz⟩ := size116
  exact neq_of_p (equal_ptr 9999 99 116 i' Yba.underlying99 hi' hz a w)
theorem neq_4 (a : Bool) (w : World) : (binOp .neq 4 (.bool a) (.bool a)).run Yba.prog w = .ok (.bool false) w := by
  simp [go_sem, Yba.underlying4]
theorem neq_127 (a : Int) (w : World) : (binOp .neq 127 (.int .u8 a) (.int .u8 a)).run Yba.prog w = .ok (.bool false) w := by
  simp [go_sem, Yba.underlying127]
end Go.Proofs.Ybulkedxc
