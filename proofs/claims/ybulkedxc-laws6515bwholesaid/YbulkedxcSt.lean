/-
  LawS6515BWhole: what the law is given; the blocks of her variables.
-/
import Derived.Test.YbulkedxcItN
import Derived.Test.YbulkedxcFr
namespace Go.Proofs.Ybulkedxc
open Go.RowKit
attribute [local simp] setO_size setT_same

/-- what the law is given -/
structure Inp where
  step : Int
  kind : Int
  txn : Int
  item : ByteArray
  expr : ByteArray
  dec : Int
  na : Option Addr
  nn : Nat
  nc : Nat
  np : Nat → Bool
  nit : Nat → ByteArray
  nvl : Nat → Int
  ca : Option Addr
  cn : Nat
  cc : Nat
  cx : List Int
  oa : Option Addr
  on : Nat
  oc : Nat
  sp : Nat → Spec
  bc : Nat → Int
  rd : Nat → Int
  wr : Nat → Int

def spA (s : Spec) : Array Value := #[.bool s.casc, .bool s.wait, .bool s.ww, .bool s.conf, .bool s.park, .int .u8 s.rd, .int .u8 s.wr]
def Inp.evA (D : Inp) : Array Value := #[.int .i64 D.step, .int .u8 D.kind, .int .i64 D.txn, .string D.item, .string D.expr, .int .u8 D.dec, .slice D.na D.nn D.nc]
def Inp.bcA (D : Inp) : Array Value := #[.int .i64 (D.bc 0), .int .i64 (D.bc 1), .int .i64 (D.bc 2), .int .i64 (D.bc 3), .int .i64 (D.bc 4), .int .i64 (D.bc 5), .int .i64 (D.bc 6), .int .i64 (D.bc 7)]
def four (g : Nat → Int) : Array Value := #[.int .i64 (g 0), .int .i64 (g 1), .int .i64 (g 2), .int .i64 (g 3)]
def nmA : Array Value := #[.string (nm 0), .string (nm 1), .string (nm 2), .string (nm 3)]

/-- what the slices that the law is given hold -/
structure InpAt (D : Inp) (w : World) : Prop where
  note : ∀ k, k < D.nn → ∃ a, D.na = some a ∧ a.block < w.heap.size ∧ w.cell? (a.add (k * 3)) = some (.bool (D.np k)) ∧ w.cell? (a.add (k * 3 + 1)) = some (.string (D.nit k)) ∧ w.cell? (a.add (k * 3 + 2)) = some (.int .i64 (D.nvl k))
  noteNil : D.na = none → D.nn = 0
  cyc : ∀ k x, D.cx[k]? = some x → ∃ a, D.ca = some a ∧ a.block < w.heap.size ∧ w.cell? (a.add k) = some (.int .i64 x)
  cycLen : D.cx.length = D.cn
  cycNil : D.ca = none → D.cn = 0 ∧ D.cc = 0
  cycLt : ∀ a, D.ca = some a → a.block < w.heap.size
  oth : ∀ i, i < D.on → ∃ a, D.oa = some a ∧ a.block < w.heap.size ∧ ∀ j v, (spA (D.sp (i + 1)))[j]? = some v → w.cell? (a.add (i * 7 + j)) = some v
  rdB : ∀ i, i ≤ D.on → (D.sp i).rd < 256
  wrB : ∀ i, i ≤ D.on → (D.sp i).wr < 256
  bcR : ∀ i, i < 8 → -9223372036854775808 ≤ D.bc i ∧ D.bc i < 9223372036854775808
  onB : D.on ≤ 1024
  nnB : D.nn ≤ 65536
  cnB : D.cn ≤ 65536

/-- the old memory is as it was -/
structure Old (B : Nat) (w w' : World) : Prop where
  os : w'.os = w.os
  output : w'.output = w.output
  size : w.heap.size ≤ w'.heap.size
  block : ∀ k, k < B → w'.heap[k]? = w.heap[k]?
theorem Old.refl (B : Nat) (w : World) : Old B w w := ⟨rfl, rfl, Nat.le_refl _, fun _ _ => rfl⟩
theorem Old.trans {B : Nat} {a b c : World} (h : Old B a b) (k : Old B b c) : Old B a c := ⟨k.os.trans h.os, k.output.trans h.output, Nat.le_trans h.size k.size, fun i hi => (k.block i hi).trans (h.block i hi)⟩
theorem Old.of_below {B C : Nat} {a b : World} (h : Below C a b) (hC : B ≤ C) : Old B a b := ⟨h.os, h.output, h.size, fun k hk => h.block k (by omega)⟩
theorem Old.alloc {B : Nat} {a b : World} (h : Old B a b) (hB : B ≤ b.heap.size) (o : Obj) : Old B a (b.alloc o) := h.trans (Old.of_below ((Below.refl b.heap.size b).alloc (Nat.le_refl _) o) hB)
theorem Old.drew {B : Nat} {a b : World} (h : Old B a b) (n : Nat) : Old B a (b.drewN n) := ⟨h.os, h.output, h.size, h.block⟩
theorem Old.setCell {B : Nat} {a b : World} (h : Old B a b) {g k : Nat} (hg : B ≤ g) (v : Value) : Old B a (b.setCell ⟨g, k, none⟩ v) := ⟨h.os, h.output, by simpa using h.size, fun i hi => (heap_setCell_ne _ (by omega)).trans (h.block i hi)⟩
theorem Old.setO {B : Nat} {a b : World} (h : Old B a b) {g : Nat} (hg : B ≤ g) (o : Obj) : Old B a (setO b g o) := ⟨h.os, h.output, by simpa using h.size, fun i hi => (setO_other _ _ _ _ (by omega)).trans (h.block i hi)⟩
theorem Old.cell {B : Nat} {a b : World} (h : Old B a b) {p : Addr} (hp : p.block < B) : b.cell? p = a.cell? p := by simp [World.cell?, h.block _ hp]

theorem add_block (a : Addr) (k : Nat) : (a.add k).block = a.block := by unfold Addr.add; split <;> rfl

/-- the blocks of the law's variables -/
structure Loc where
  e7 : Nat
  b9 : Nat
  b11 : Nat
  b12 : Nat
  b13 : Nat
  b15 : Nat
  sch : Nat
  vs : Nat
  live : Nat
  wait : Nat
  st : Nat
  b19 : Nat
/-- they lie one behind the other -/
structure Loc.Ord (L : Loc) (B N : Nat) : Prop where
  h0 : B ≤ L.e7
  h1 : L.e7 < L.b9
  h2 : L.b9 < L.b11
  h3 : L.b11 < L.b12
  h4 : L.b12 < L.b13
  h5 : L.b13 < L.b15
  h6 : L.b15 < L.sch
  h7 : L.sch < L.vs
  h8 : L.vs < L.live
  h9 : L.live < L.wait
  h10 : L.wait < L.st
  h11 : L.st < L.b19
  h12 : L.b19 < N
/-- the blocks that stay till the transactions are made -/
structure Pre (D : Inp) (L : Loc) (w : World) : Prop where
  e7 : w.heap[L.e7]? = some (.cells D.evA 24 (0, 0))
  b9 : w.heap[L.b9]? = some (.cells (spA (D.sp 0)) 27 (0, 0))
  b11 : w.heap[L.b11]? = some (.cells D.bcA 30 (0, 0))
  b12 : w.heap[L.b12]? = some (.cells (four D.rd) 31 (0, 0))
  b13 : w.heap[L.b13]? = some (.cells (four D.wr) 31 (0, 0))
  b15 : w.heap[L.b15]? = some (.cells nmA 32 (0, 0))
  sch : w.heap[L.sch]? = some (.cells #[.slice none 0 0, .int .i64 0, .int .i64 0] 36 (0, 0))
  vs : w.heap[L.vs]? = some (.cells #[.int .i64 0] 39 (0, 0))
  live : w.heap[L.live]? = some (.map #[] 0)
  wait : w.heap[L.wait]? = some (.map #[] 0)
  s2 : w.cell? ⟨L.st, 2, none⟩ = some (.iface 34 (ptr L.sch))
  s6 : w.cell? ⟨L.st, 6, none⟩ = some (.iface 37 (ptr L.vs))
  s110 : w.cell? ⟨L.st, 110, none⟩ = some (.map (some L.live))
  s112 : w.cell? ⟨L.st, 112, none⟩ = some (.map (some L.wait))
  sc : ∀ k, k < 8 → w.cell? ⟨L.st, 119 + k, none⟩ = some (.int .i64 (D.bc k))
theorem Pre.keep {D : Inp} {L : Loc} {w w' : World} {B N : Nat} (h : Pre D L w) (ho : L.Ord B N) (hb : ∀ b, b < L.st → w'.heap[b]? = w.heap[b]?) (hc : ∀ k, k < 127 → w'.cell? ⟨L.st, k, none⟩ = w.cell? ⟨L.st, k, none⟩) : Pre D L w' := by
  obtain ⟨h0, h1, h2, h3, h4, h5, h6, h7, h8, h9, h10, h11, h12⟩ := ho
  exact ⟨(hb _ (by omega)).trans h.e7, (hb _ (by omega)).trans h.b9, (hb _ (by omega)).trans h.b11, (hb _ (by omega)).trans h.b12, (hb _ (by omega)).trans h.b13, (hb _ (by omega)).trans h.b15, (hb _ (by omega)).trans h.sch, (hb _ (by omega)).trans h.vs, (hb _ (by omega)).trans h.live, (hb _ (by omega)).trans h.wait, (hc _ (by omega)).trans h.s2, (hc _ (by omega)).trans h.s6, (hc _ (by omega)).trans h.s110, (hc _ (by omega)).trans h.s112, fun k hk => (hc _ (by omega)).trans (h.sc k hk)⟩

/-- the frame's slots that hold the law's variables -/
structure Sl (D : Inp) (L : Loc) (f : Nat → Value) : Prop where
  s1 : f 1 = .slice D.ca D.cn D.cc
  s3 : f 3 = .slice D.oa D.on D.oc
  s7 : f 7 = ptr L.e7
  s9 : f 9 = ptr L.b9
  s11 : f 11 = ptr L.b11
  s12 : f 12 = ptr L.b12
  s13 : f 13 = ptr L.b13
  s15 : f 15 = ptr L.b15
  s16 : f 16 = ptr L.sch
  s17 : f 17 = ptr L.vs
  s18 : f 18 = ptr L.st
  s19 : f 19 = ptr L.b19
end Go.Proofs.Ybulkedxc
