/-
  LawS6519CWhole: NewReplacer, Replace, quoteAlternate, the law.
-/
import Derived.Test.YbulkedzgOnce
import Derived.Test.YbulkedzgBuilt
import Derived.Test.YbulkedzgReplace
import Derived.Test.YbulkedzgShort
namespace Go.Proofs.Ybulkedzg
open Go.RowKit

theorem replace_any (s : ByteArray) (B R : Nat) (w : World) (hs : s.size ≤ 1048576) (hR : RepAt w B R) :
    Calls Yba.prog 74 #[.pointer (some ⟨R, 0, none⟩), .string s] w fun e w' => e = .returned (.string ⟨(quo s.data.toList).toArray⟩) ∧ Below w.heap.size w w' := by
  by_cases h : 24 ≤ s.size
  · exact replace_long s B R w hs h hR
  · exact replace_short s B R w hs (by omega) hR

theorem RepAt.set {W : World} {B R p i : Nat} (h : RepAt W B R) (v : Value) (hp : p < B) : RepAt (W.setCell ⟨p, i, none⟩ v) B R := by
  have ne : ∀ b j, B ≤ b → (W.setCell ⟨p, i, none⟩ v).cell? ⟨b, j, none⟩ = W.cell? ⟨b, j, none⟩ := by
    intro b j hb
    refine World.cell?_setCell_other _ _ _ _ (fun e => ?_)
    have := congrArg Addr.block e
    simp at this
    omega
  have two : ∀ j x, Two W B R j x → Two (W.setCell ⟨p, i, none⟩ v) B R j x := by
    rintro j x ⟨b, c, h1, h2, h3, h4, h5⟩
    exact ⟨b, c, h1, by simpa using h2, (ne _ _ h.low).trans h3, (ne _ _ h1).trans h4, (ne _ _ h1).trans h5⟩
  refine ⟨h.low, by simpa using h.lt, ?_, fun j a b c d => (ne _ _ h.low).trans (h.no j a b c d), two _ _ h.r92, two _ _ h.r34, two _ _ h.r10⟩
  obtain ⟨t, c, h1, h2, h3, h4, h5, h6⟩ := h.tab
  exact ⟨t, c, h1, by simpa using h2, (ne _ _ h.low).trans h3, (ne _ _ h1).trans h4, (ne _ _ h1).trans h5, (ne _ _ h1).trans h6⟩
theorem below_set {B : Nat} {w W : World} (h : Below B w W) (p i : Nat) (v : Value) (hp : B ≤ p) : Below B w (W.setCell ⟨p, i, none⟩ v) :=
  ⟨h.os, h.tape, h.output, by simpa using h.size, fun k hk => (heap_setCell_ne v (by omega)).trans (h.block k hk)⟩

/-- the Replacer as it lies ahead of build -/
structure NewAt (W : World) (p g c : Nat) (v3 : Value) : Prop where
  lt : p < W.heap.size
  c3 : W.cell? ⟨p, 3, none⟩ = some v3
  c4 : W.cell? ⟨p, 4, none⟩ = some (.slice (some ⟨g, 0, none⟩) 6 c)
  f3 : W.frozen? ⟨p, 3, none⟩ = false
  f4 : W.frozen? ⟨p, 4, none⟩ = false
  src : SrcAt W g

/-- the Replacer as buildOnce leaves it -/
structure DoneAt (w W : World) (p R B : Nat) : Prop where
  lt : p < B
  c3 : W.cell? ⟨p, 3, none⟩ = some (.iface 62 (.pointer (some ⟨R, 0, none⟩)))
  rep : RepAt W B R
  bel : Below p w W

set_option maxRecDepth 100000 in
set_option maxHeartbeats 1600000 in
theorem buildOnce_any (p g c : Nat) (v3 : Value) (w : World) (hN : NewAt w p g c v3) (hO : OnceAt w p) :
    Calls Yba.prog 9 #[.pointer (some ⟨p, 0, none⟩)] w fun e w2 => e = .returned (.tuple #[]) ∧ (OnceAt w2 p ∧ DoneAt w w2 p (w.heap.size + 1) w.heap.size) := by
  have HN : Hid (NewAt w p g c v3) := hN
  have HO : Hid (OnceAt w p) := hO
  clear hN hO
  go_enter Yba.func9, Yba.ntmps9
  go_wp2_with (go_at_call 12; refine (build_any p g c w HN.out.c4 HN.out.src).mono ?_; rintro e W1 ⟨rfl, hB, hR⟩; have HB : Hid (Below w.heap.size w W1) := hB; have HR : Hid (RepAt W1 w.heap.size (w.heap.size + 1)) := hR; have e3 := (hB.cell (p := ⟨p, 3, none⟩) HN.out.lt).trans HN.out.c3; have e4 := (hB.cell (p := ⟨p, 4, none⟩) HN.out.lt).trans HN.out.c4; have z3 := (hB.frozen (p := ⟨p, 3, none⟩) HN.out.lt).trans HN.out.f3; have z4 := (hB.frozen (p := ⟨p, 4, none⟩) HN.out.lt).trans HN.out.f4; clear hB hR)
  go_end0
  have hlt := HN.out.lt
  have k2 : ∀ (Z : World) i j v, i ≠ j → (Z.setCell ⟨p, i, none⟩ v).cell? ⟨p, j, none⟩ = Z.cell? ⟨p, j, none⟩ := fun Z i j v _ => World.cell?_setCell_other _ _ _ _ (by simp)
  refine ⟨rfl, ⟨?_, ?_, ?_, ?_⟩, ⟨hlt, ?_, (HR.out.set _ hlt).set _ hlt, ?_⟩⟩
  · rw [k2 _ _ _ _ (by omega), k2 _ _ _ _ (by omega)]; exact (HB.out.cell (p := ⟨p, 0, none⟩) hlt).trans HO.out.h0
  · rw [k2 _ _ _ _ (by omega), k2 _ _ _ _ (by omega)]; exact (HB.out.cell (p := ⟨p, 1, none⟩) hlt).trans HO.out.h1
  · simp only [World.frozen?_setCell]; exact (HB.out.frozen (p := ⟨p, 0, none⟩) hlt).trans HO.out.f0
  · simp only [World.frozen?_setCell]; exact (HB.out.frozen (p := ⟨p, 1, none⟩) hlt).trans HO.out.f1
  · rw [k2 _ _ _ _ (by omega)]; exact World.cell?_setCell_same _ _ _ e3
  · exact below_set (below_set ⟨HB.out.os, HB.out.tape, HB.out.output, HB.out.size, fun k hk => HB.out.block k (by omega)⟩ p 3 _ (Nat.le_refl _)) p 4 _ (Nat.le_refl _)

theorem own_cells9 {w : World} {B : Nat} {v : Value} {xs : List Value} {n : Nat} (h : w.ownsRow B 9 1 v n xs) (hn : 0 < n) :
    ∃ g cap, v = .slice (some ⟨g, 0, none⟩) n cap ∧ B ≤ g ∧ g < w.heap.size ∧ ∀ j u, xs[j]? = some u → w.cell? ⟨g, j, none⟩ = some u := by
  obtain ⟨h1, h2⟩ := h
  rcases h2 with ⟨_, h3⟩ | ⟨g, cap, cur, rfl, hg, hheap, hnc, _, hsz, htk⟩
  · omega
  · refine ⟨g, cap, rfl, hg, (Array.getElem?_eq_some_iff.1 hheap).1, ?_⟩
    intro j u hj
    have hjn : j < n := by
      rcases Nat.lt_or_ge j n with h | h
      · exact h
      · rw [List.getElem?_eq_none (by rw [h1]; omega)] at hj; cases hj
    rw [← htk, List.getElem?_take_of_lt (by omega)] at hj
    simp only [World.cell?, hheap]
    simpa using hj

/-- the Replacer as NewReplacer hands it out -/
structure FreshAt (w W : World) (p : Nat) : Prop where
  low : w.heap.size ≤ p
  new : ∃ g c, g < p ∧ NewAt W p g c .nilIface
  h0 : W.cell? ⟨p, 0, none⟩ = some (.int .u32 0)
  h1 : W.cell? ⟨p, 1, none⟩ = some (.int .i32 0)
  f0 : W.frozen? ⟨p, 0, none⟩ = false
  f1 : W.frozen? ⟨p, 1, none⟩ = false
  bel : Below w.heap.size w W

/-- the six strings -/
def six : List Value := [.string ⟨#[92]⟩, .string ⟨#[92, 92]⟩, .string ⟨#[34]⟩, .string ⟨#[92, 34]⟩, .string ⟨#[10]⟩, .string ⟨#[92, 110]⟩]
theorem SrcAt.six {W : World} {g : Nat} (h : SrcAt W g) : ∀ j u, six[j]? = some u → W.cell? ((⟨g, 0, none⟩ : Addr).add j) = some u := by
  intro j u hj
  match j, hj with
  | 0, hj => simp [Ybulkedzg.six] at hj; subst hj; simpa [Addr.add] using h.c0
  | 1, hj => simp [Ybulkedzg.six] at hj; subst hj; simpa [Addr.add] using h.c1
  | 2, hj => simp [Ybulkedzg.six] at hj; subst hj; simpa [Addr.add] using h.c2
  | 3, hj => simp [Ybulkedzg.six] at hj; subst hj; simpa [Addr.add] using h.c3
  | 4, hj => simp [Ybulkedzg.six] at hj; subst hj; simpa [Addr.add] using h.c4
  | 5, hj => simp [Ybulkedzg.six] at hj; subst hj; simpa [Addr.add] using h.c5
theorem SrcAt.of {W : World} {g : Nat} (hg : g < W.heap.size) (h : ∀ j u, Ybulkedzg.six[j]? = some u → W.cell? ⟨g, j, none⟩ = some u) : SrcAt W g :=
  ⟨hg, h 0 _ rfl, h 1 _ rfl, h 2 _ rfl, h 3 _ rfl, h 4 _ rfl, h 5 _ rfl⟩

set_option maxRecDepth 100000 in
set_option maxHeartbeats 1600000 in
theorem newReplacer_any (g c : Nat) (w : World) (hg : SrcAt w g) :
    Calls Yba.prog 6 #[.slice (some ⟨g, 0, none⟩) 6 c] w fun e w' => ∃ p, e = .returned (.pointer (some ⟨p, 0, none⟩)) ∧ FreshAt w w' p := by
  obtain ⟨i0, hi, hz0, hz1, hz2⟩ := info_parts info9
  have HG : Hid (SrcAt w g) := hg
  clear hg
  go_enter Yba.func6, Yba.ntmps6
  go_wp2_with (at_builtin; refine wpList_append_own _ rfl _ _ 27 rfl w.heap.size 9 i0 (.string ⟨#[]⟩) 1 16 Yba.underlying27 hi hz0 hz1 hz2 rfl (by decide) _ _ _ rfl (World.ownsRow_nil w w.heap.size 9 1) ⟨g, 0, none⟩ 6 c six rfl rfl HG.out.six (by simp [six, Value.oneCell']) (by unfold maxLen; omega) (by omega) (Nat.le_refl _) ?_)
  intro v' W1 hown hgrow _
  obtain ⟨g1, c1, rfl, hg1, hg2, hcells⟩ := own_cells9 hown (by omega)
  have HB : Hid (Below w.heap.size w W1) := (Below.refl _ _).grown hgrow (Nat.le_refl _) (fun k h => by cases h)
  have HC : Hid (SrcAt W1 g1) := SrcAt.of hg2 hcells
  clear hown hgrow hcells
  go_wp2
  go_ret
  have hs := HB.out.size
  refine ⟨_, rfl, hs, ⟨g1, c1, hg2, by simp, by simp, by simp, by simp, by simp, HC.out.later ((Below.refl _ _).alloc (Nat.le_refl _) _)⟩, by simp, by simp, by simp, by simp, HB.out.alloc hs _⟩
theorem method_replace (a : Addr) (w : World) : (method 239 62 (.pointer (some a)) "Replace").run Yba.prog w = .ok (74, .pointer (some a)) w := by kernel_rfl

set_option maxRecDepth 100000 in
set_option maxHeartbeats 1600000 in
theorem replacer_any (s : ByteArray) (hs : s.size ≤ 1048576) (p : Nat) (w0 w : World) (hF : FreshAt w0 w p) :
    Calls Yba.prog 7 #[.pointer (some ⟨p, 0, none⟩), .string s] w fun e w' => e = .returned (.string ⟨(quo s.data.toList).toArray⟩) ∧ Below p w w' := by
  obtain ⟨g, c, hgp, hN⟩ := hF.new
  have k2 : ∀ (Z : World) i j v, i ≠ j → (Z.setCell ⟨p, i, none⟩ v).cell? ⟨p, j, none⟩ = Z.cell? ⟨p, j, none⟩ := fun Z i j v _ => World.cell?_setCell_other _ _ _ _ (by simp)
  have kg : ∀ j v, (w.setCell ⟨p, 1, none⟩ v).cell? ⟨g, j, none⟩ = w.cell? ⟨g, j, none⟩ := fun j v => World.cell?_setCell_other _ _ _ _ (by intro e; have := congrArg Addr.block e; simp at this; omega)
  have hN1 : NewAt (w.setCell ⟨p, 1, none⟩ (.int .i32 1)) p g c .nilIface := by
    refine ⟨by simpa using hN.lt, (k2 _ _ _ _ (by omega)).trans hN.c3, (k2 _ _ _ _ (by omega)).trans hN.c4, by simpa using hN.f3, by simpa using hN.f4, ?_⟩
    have := hN.src
    exact ⟨by simpa using this.lt, (kg _ _).trans this.c0, (kg _ _).trans this.c1, (kg _ _).trans this.c2, (kg _ _).trans this.c3, (kg _ _).trans this.c4, (kg _ _).trans this.c5⟩
  have hO1 : OnceAt (w.setCell ⟨p, 1, none⟩ (.int .i32 1)) p :=
    ⟨(k2 _ _ _ _ (by omega)).trans hF.h0, World.cell?_setCell_same _ _ _ hF.h1, by simpa using hF.f0, by simpa using hF.f1⟩
  have hdo := do_first p (fun w2 => DoneAt (w.setCell ⟨p, 1, none⟩ (.int .i32 1)) w2 p (w.heap.size + 1) w.heap.size) w hF.h0 hF.h1 hF.f1 (by
    have := buildOnce_any p g c .nilIface _ hN1 hO1
    simpa using this)
  have hmf : ∀ (fn : Fn) (first cap : Array Value) (w : World), (Instr.makeFunc fn first cap).run Yba.prog w = .ok (.func fn first cap) w := fun _ _ _ _ => rfl
  have HD : Hid (Calls Yba.prog 8 #[.pointer (some ⟨p, 0, none⟩), .func (.func 9) #[.pointer (some ⟨p, 0, none⟩)] #[]] w fun e w' => e = .returned (.tuple #[]) ∧
      ∃ w2, OnceAt w2 p ∧ DoneAt (w.setCell ⟨p, 1, none⟩ (.int .i32 1)) w2 p (w.heap.size + 1) w.heap.size ∧ w' = (w2.drew.setCell ⟨p, 0, none⟩ (.int .u32 1)).setCell ⟨p, 1, none⟩ (.int .i32 0)) := hdo
  have hlt := hN.lt
  have hme := method_replace
  clear hdo hN hN1 hO1 hF kg k2
  go_enter Yba.func7, Yba.ntmps7
  go_wp2_with (go_at_call 8; refine HD.out.mono ?_; rintro e W1 ⟨rfl, w2, hO, hDn, hW1⟩; have k2 : ∀ (Z : World) i j v, i ≠ j → (Z.setCell ⟨p, i, none⟩ v).cell? ⟨p, j, none⟩ = Z.cell? ⟨p, j, none⟩ := (fun Z i j v _ => World.cell?_setCell_other _ _ _ _ (by simp)); have e3 : W1.cell? ⟨p, 3, none⟩ = some (.iface 62 (.pointer (some ⟨w.heap.size + 1, 0, none⟩))) := (by rw [hW1, k2 _ _ _ _ (by omega), k2 _ _ _ _ (by omega)]; exact hDn.c3); have HR : Hid (RepAt W1 w.heap.size (w.heap.size + 1)) := (by rw [hW1]; exact (RepAt.set (RepAt.set (hDn.rep.later ((Below.refl _ _).drew)) _ hlt) _ hlt)); have HB : Hid (Below p (w.setCell ⟨p, 1, none⟩ (.int .i32 1)) W1) := (by rw [hW1]; exact below_set (below_set hDn.bel.drew p 0 _ (Nat.le_refl _)) p 1 _ (Nat.le_refl _)); clear k2 hW1 hDn hO)
  go_wp2_with (go_at_call 74; refine (replace_any s _ _ W1 hs HR.out).mono ?_; rintro e W2 ⟨rfl, hB2⟩)
  go_ret
  refine ⟨rfl, ?_⟩
  have b1 := below_set (Below.refl p w) p 1 (.int .i32 1) (Nat.le_refl _)
  have b2 := b1.trans HB.out
  have hsz := b2.size
  exact b2.trans ⟨hB2.os, hB2.tape, hB2.output, hB2.size, fun k hk => hB2.block k (by omega)⟩

theorem cat3 (l : List UInt8) : (⟨#[34]⟩ : ByteArray) ++ ⟨l.toArray⟩ ++ ⟨#[34]⟩ = ⟨(34 :: (l ++ [34])).toArray⟩ := by
  apply ByteArray.ext
  simp

set_option maxRecDepth 100000 in
set_option maxHeartbeats 1600000 in
theorem quote_any (s : ByteArray) (hs : s.size ≤ 1048576) (w : World) :
    Calls Yba.prog 4 #[.string s] w fun e w' => e = .returned (.string ⟨(34 :: quo s.data.toList ++ [34]).toArray⟩) ∧ Below w.heap.size w w' := by
  obtain ⟨q, hq⟩ : ∃ q : ByteArray, q = ⟨(quo s.data.toList).toArray⟩ := ⟨_, rfl⟩
  have hrep : ∀ (p : Nat) (w0 w : World), FreshAt w0 w p → Calls Yba.prog 7 #[.pointer (some ⟨p, 0, none⟩), .string s] w fun e w' => e = .returned (.string q) ∧ Below p w w' := by
    rw [hq]; exact replacer_any s hs
  have HREP : Hid (∀ (p : Nat) (w0 w : World), FreshAt w0 w p → Calls Yba.prog 7 #[.pointer (some ⟨p, 0, none⟩), .string s] w fun e w' => e = .returned (.string q) ∧ Below p w w') := hrep
  have HS : Hid (SrcAt (w.alloc (.cells #[.string ⟨#[92]⟩, .string ⟨#[92, 92]⟩, .string ⟨#[34]⟩, .string ⟨#[92, 34]⟩, .string ⟨#[10]⟩, .string ⟨#[92, 110]⟩] 9)) w.heap.size) :=
    ⟨by simp, by simp, by simp, by simp, by simp, by simp, by simp⟩
  have hqs : q.size ≤ 2097152 := by
    have h1 := quo_len s.data.toList
    have h2 : q.size = (quo s.data.toList).length := by rw [hq]; simp [ByteArray.size]
    have h3 : s.data.toList.length = s.size := by simp
    have h4 := List.countP_le_length (p := spec3) (l := s.data.toList)
    omega
  have HQ : Hid (q = ⟨(quo s.data.toList).toArray⟩) := hq
  have n1 : ¬ (9223372036854775807 < 1 + q.size) := by omega
  have n2 : ¬ (9223372036854775807 < 1 + q.size + 1) := by omega
  clear hrep hq
  go_enter Yba.func4, Yba.ntmps4
  go_wp2_with (first | (go_at_call 6; refine (newReplacer_any _ _ _ HS.out).mono ?_; rintro e W1 ⟨p, rfl, hF⟩; have HF : Hid (FreshAt _ W1 p) := hF; clear hF) | (go_at_call 7; refine (HREP.out p _ W1 HF.out).mono ?_; rintro e W2 ⟨rfl, hB2⟩; have HB2 : Hid (Below p W1 W2) := hB2; clear hB2))
  go_ret
  refine ⟨?_, ?_⟩
  · rw [HQ.out]
    exact congrArg (fun x => Ending.returned (Value.string x)) (cat3 _)
  · have b1 := HF.out.bel
    have b2 := HF.out.low
    have b0 : Below w.heap.size w (w.alloc (.cells #[.string ⟨#[92]⟩, .string ⟨#[92, 92]⟩, .string ⟨#[34]⟩, .string ⟨#[92, 34]⟩, .string ⟨#[10]⟩, .string ⟨#[92, 110]⟩] 9)) := (Below.refl _ _).alloc (Nat.le_refl _) _
    have hs0 := b0.size
    refine b0.trans (Below.trans ⟨b1.os, b1.tape, b1.output, b1.size, fun k hk => b1.block k (by omega)⟩ ?_)
    have b3 := HB2.out
    exact ⟨b3.os, b3.tape, b3.output, b3.size, fun k hk => b3.block k (by omega)⟩

set_option maxRecDepth 100000 in
set_option maxHeartbeats 1600000 in
theorem law_small (s : ByteArray) (hs : s.size ≤ 1048576) (w : World) :
    Calls Yba.prog 3 #[.string s] w fun e w' => e = .returned (.bool true) ∧ Below w.heap.size w w' := by
  obtain ⟨q, hq⟩ : ∃ q : ByteArray, q = ⟨(34 :: quo s.data.toList ++ [34]).toArray⟩ := ⟨_, rfl⟩
  have h4 : ∀ w, Calls Yba.prog 4 #[.string s] w fun e w' => e = .returned (.string q) ∧ Below w.heap.size w w' := by rw [hq]; exact quote_any s hs
  have h5 : ∀ w, Calls Yba.prog 5 #[.string s] w fun e w' => e = .returned (.string q) ∧ Below w.heap.size w w' := by rw [hq]; exact fun w => model_any s w hs
  have H4 : Hid (∀ w, Calls Yba.prog 4 #[.string s] w fun e w' => e = .returned (.string q) ∧ Below w.heap.size w w') := h4
  have H5 : Hid (∀ w, Calls Yba.prog 5 #[.string s] w fun e w' => e = .returned (.string q) ∧ Below w.heap.size w w') := h5
  have hsi : ¬ (1048576 : Int) < (s.size : Int) := by omega
  clear h4 h5 hq
  go_enter Yba.func3, Yba.ntmps3
  go_wp2_with (first | (go_at_call 4; refine (H4.out w).mono ?_; rintro e W1 ⟨rfl, hB1⟩; have HB1 : Hid (Below w.heap.size w W1) := hB1; clear hB1) | (go_at_call 5; refine (H5.out W1).mono ?_; rintro e W2 ⟨rfl, hB2⟩; have HB2 : Hid (Below W1.heap.size W1 W2) := hB2; clear hB2))
  go_ret
  refine ⟨?_, ?_⟩
  · simp
  · have b1 := HB1.out
    have b2 := HB2.out
    have := b1.size
    exact b1.trans ⟨b2.os, b2.tape, b2.output, b2.size, fun k hk => b2.block k (by omega)⟩

theorem law_big (s : ByteArray) (hs : ¬ s.size ≤ 1048576) (w : World) :
    Calls Yba.prog 3 #[.string s] w fun e w' => e = .returned (.bool true) ∧ Below w.heap.size w w' := by
  have hsi : (1048576 : Int) < (s.size : Int) := by omega
  go_enter Yba.func3, Yba.ntmps3
  go_wp2
  go_ret
  exact ⟨rfl, Below.refl _ _⟩

theorem law_any (s : ByteArray) (w : World) :
    Calls Yba.prog 3 #[.string s] w fun e w' => e = .returned (.bool true) ∧ Below w.heap.size w w' := by
  by_cases hs : s.size ≤ 1048576
  · exact law_small s hs w
  · exact law_big s hs w
end Go.Proofs.Ybulkedzg
