/-
  LawS6515BWhole: operations on maps, as equations.
-/
import Derived.Test.YbulkedxcRows
import Derived.WalkKit
import Derived.WalkSpells
import Derived.WalkLawsBesides
import Derived.OwnWalk
import Derived.Below
import Derived.MapKept
import Derived.Laws.EntriesVeiled
import Derived.Conc.EventLaws
namespace Go.Proofs.Ybulkedxc
open Go.RowKit
variable {P : Program}

open MapKept (IsKey run_checkKey run_findKey)

theorem run_lookup_hit (w : World) {t k e : TypeId} {d : TypeDesc} (ht : P.underlying t = some (.map k e)) (hk : P.underlying k = some d) {r : Nat} {es : Array MapEntry} {c : Nat} (hb : w.heap[r]? = some (.map es c))
    {key v : Value} (hp : IsKey d key) {i : Nat} (hf : Instr.findNow d key es.toList 0 = some (some (i, v))) (ok : Bool) :
    (Instr.lookup t (.map (some r)) key ok).run P w = .ok (if ok then .tuple #[v, .bool true] else v) w := by
  simp [Instr.lookup, run_underlying ht, MapKept.run_getObj_map hb, run_checkKey hk hp, run_findKey hk hf]

theorem run_lookup_miss (w : World) {t k e : TypeId} {d : TypeDesc} (ht : P.underlying t = some (.map k e)) (hk : P.underlying k = some d) {r : Nat} {es : Array MapEntry} {c : Nat} (hb : w.heap[r]? = some (.map es c))
    {key z : Value} (hp : IsKey d key) (hz : ∀ w, (zeroValue e).run P w = .ok z w) (hf : Instr.findNow d key es.toList 0 = some none) (ok : Bool) :
    (Instr.lookup t (.map (some r)) key ok).run P w = .ok (if ok then .tuple #[z, .bool false] else z) w := by
  simp [Instr.lookup, run_underlying ht, MapKept.run_getObj_map hb, run_checkKey hk hp, run_findKey hk hf, hz]

theorem run_lookup_nil (w : World) {t k e : TypeId} {d : TypeDesc} (ht : P.underlying t = some (.map k e)) (hk : P.underlying k = some d) 
    {key z : Value} (hp : IsKey d key) (hz : ∀ w, (zeroValue e).run P w = .ok z w) (ok : Bool) :
    (Instr.lookup t (.map none) key ok).run P w = .ok (if ok then .tuple #[z, .bool false] else z) w := by
  simp [Instr.lookup, run_underlying ht, run_checkKey hk hp, run_findKey (l := []) (a := none) hk rfl, hz]

/-- the world in which block r is o -/
def setO (w : World) (r : Nat) (o : Obj) : World := { w with heap := w.heap.setIfInBounds r o }


theorem run_update_new (w : World) {t k e : TypeId} {d : TypeDesc} (ht : P.underlying t = some (.map k e)) (hk : P.underlying k = some d) {r : Nat} {es : Array MapEntry} {c : Nat} (hb : w.heap[r]? = some (.map es c))
    {key v : Value} (hp : IsKey d key) (hf : Instr.findNow d key es.toList 0 = some none) :
    (Instr.mapUpdate t (.map (some r)) key v).run P w = .ok () (setO w r (.map (es.push { key, val := v, born := c }) (c + 1))) := by
  simp [Instr.mapUpdate, run_underlying ht, MapKept.run_getObj_map hb, run_checkKey hk hp, run_findKey hk hf, MapKept.run_setObj_map _ hb, setO]

theorem run_delete_hit (w : World) {t k e ty : TypeId} {k' : TypeId} {d : TypeDesc} (ht : P.underlying t = some (.map k e)) (hk : P.underlying k = some d) {r : Nat} {es : Array MapEntry} {c : Nat} (hb : w.heap[r]? = some (.map es c))
    {key v : Value} (hp : IsKey d key) {i : Nat} (hf : Instr.findNow d key es.toList 0 = some (some (i, v))) :
    (Builtin.delete_ #[t, k'] ty #[.map (some r), key]).run P w = .ok (.tuple #[]) (setO w r (.map (es.eraseIdxIfInBounds i) c)) := by
  simp [Builtin.delete_, run_underlying ht, MapKept.run_getObj_map hb, run_checkKey hk hp, run_findKey hk hf, MapKept.run_setObj_map _ hb, setO]

theorem run_close (w : World) {r n : Nat} {b : Array Value} {s rc : Nat} {tm : Bool} {ts : Array TypeId} {ty : TypeId} (hb : w.heap[r]? = some (.chan n b false s rc tm)) :
    (Builtin.close_ ts ty #[.chan (some r)]).run P w = .ok (.tuple #[]) (setO w r (.chan n b true s rc tm)) :=
  run_close_open (P := P) ts ty hb

theorem setO_size (w : World) (r : Nat) (o : Obj) : (setO w r o).heap.size = w.heap.size := by simp [setO]
theorem setO_heap (w : World) (r : Nat) (o : Obj) (h : r < w.heap.size) : (setO w r o).heap[r]? = some o := by simp [setO, h]
theorem setO_other (w : World) (r k : Nat) (o : Obj) (h : k ≠ r) : (setO w r o).heap[k]? = w.heap[k]? := by simp [setO, Ne.symm h]
theorem setO_cell (w : World) (r : Nat) (o : Obj) (a : Addr) (h : a.block ≠ r) : (setO w r o).cell? a = w.cell? a := by simp [World.cell?, setO_other w r a.block o h]
theorem setO_frozen (w : World) (r : Nat) (o : Obj) (a : Addr) (h : a.block ≠ r) : (setO w r o).frozen? a = w.frozen? a := by simp [World.frozen?, setO_other w r a.block o h]
theorem setO_os (w : World) (r : Nat) (o : Obj) : (setO w r o).os = w.os := rfl
theorem setO_tape (w : World) (r : Nat) (o : Obj) : (setO w r o).tape = w.tape := rfl
theorem setO_output (w : World) (r : Nat) (o : Obj) : (setO w r o).output = w.output := rfl

/-- an entry under an integer key -/
def ent (k : Int) (v : Value) (b : Nat) : MapEntry := { key := .int .i64 k, val := v, born := b }

theorem findNow_none (k : Int) : ∀ (l : List MapEntry) (i : Nat), (∀ e ∈ l, ∃ k' v b, e = ent k' v b ∧ k' ≠ k) → Instr.findNow (.int .i64) (.int .i64 k) l i = some none
  | [], _, _ => rfl
  | e :: l, i, h => by
    obtain ⟨k', v, b, rfl, hk⟩ := h e (by simp)
    have hne : (k == k') = false := by simp; omega
    simp only [Instr.findNow, Instr.sameNow, ent, if_true, hne]
    exact findNow_none k l (i + 1) (fun e he => h e (by simp [he]))

theorem findNow_some (k : Int) (v : Value) (b : Nat) : ∀ (l r : List MapEntry) (i : Nat), (∀ e ∈ l, ∃ k' v b, e = ent k' v b ∧ k' ≠ k) → Instr.findNow (.int .i64) (.int .i64 k) (l ++ ent k v b :: r) i = some (some (i + l.length, v))
  | [], r, i, _ => by simp [Instr.findNow, Instr.sameNow, ent]
  | e :: l, r, i, h => by
    obtain ⟨k', v', b', rfl, hk⟩ := h e (by simp)
    have hne : (k == k') = false := by simp; omega
    have ih := findNow_some k v b l r (i + 1) (fun e he => h e (by simp [he]))
    simp only [List.cons_append, Instr.findNow, Instr.sameNow, ent, if_true, hne]
    simp only [ent] at ih
    rw [ih]
    simp
    omega
end Go.Proofs.Ybulkedxc
