/-
  LawS6515BWhole: statement 37: the error of the first.
-/
import Derived.Test.YbulkedxcX4
namespace Go.Proofs.Ybulkedxc
open Go.RowKit
attribute [local simp] setO_size setT_same
set_option linter.unusedSimpArgs false
set_option linter.unusedVariables false
set_option linter.unnecessarySimpa false

theorem fin10 {I : Act → World → Prop} {M : Act → World → Nat} {fr fr0 : Array Value} {w w0 : World} (X : Nat) (h : fr.size = 860) (hX : X = M ⟨fr0, []⟩ w0) (k : ∀ f, (∀ i, f i = nth fr.toList i) → I ⟨frm f, []⟩ w ∧ M ⟨frm f, []⟩ w < X) : I ⟨fr, []⟩ w ∧ M ⟨fr, []⟩ w < M ⟨fr0, []⟩ w0 := by
  have := k (nth fr.toList) (fun _ => rfl)
  rw [frm_of fr h] at this
  rw [← hX]
  exact this

set_option maxRecDepth 100000 in
set_option maxHeartbeats 3200000 in
theorem piece131a (D : Inp) (V : Var) (A : Role → Nat) (S : Sys) (lx : List Int) (cv : Value) (cap xcap : Nat) (ib : Nat → Nat) (nv nv2 cy2 : Value) (ob k : Nat) (ev : Value) (w0 W w : World) (f : Nat → Value) (hD : InpAt D w0) (hon : D.on ≤ 1024) (hk : k < D.on + 1) (ha : Aft D V A S lx cv xcap ib nv nv2 cy2 ob w0 W) (hb : Below W.heap.size W w) (hev : Ev D W.heap.size ev k w) (sl : SlB D V A cap nv nv2 cy2 ob k ev f) (s60 : f 60 = ptr (A (.Ae k))) (he : ends D k = true) (hk0 : k = 0) :
    (fst_ (tail (down (fst_ (snd_ (down (down (snd_ (fst_ (tail (Yba.f3.body.getD .skip) 37)))))))) 8)).wp Yba.prog (Exit.then (M131 D V A cap nv nv2 cy2 ob k ev W) fun _ _ _ => False) ⟨frm f, []⟩ w := by
  obtain ⟨M, hM⟩ : ∃ M, M = M131 D V A cap nv nv2 cy2 ob k ev W := ⟨_, rfl⟩
  rw [← hM]
  have HM := hid hM
  clear hM
  have hnn := hD.nnB
  have hnn' : (D.nn : Int) ≤ 65536 := by omega
  have hnn0 : (0 : Int) ≤ (D.nn : Int) := by omega
  have hk0i : ((k : Int) == 0) = true := by simp; omega
  obtain ⟨a, c, hdid, hn0, hn1⟩ := ha.did
  have hSnv : S.nv = .slice a D.nn c := hdid.nv
  have hSkn : S.kn = knOf (ntD D ib) D.nn := hdid.kn
  have a1 : w.cell? ⟨A (.Ae k), 1, none⟩ = some (.int .i64 D.step) := ha.aAt hb k hk he 1 _ rfl
  have a2 : w.cell? ⟨A (.Ae k), 2, none⟩ = some (.int .u8 D.kind) := ha.aAt hb k hk he 2 _ (by show some (Value.int .u8 (if k = 0 then D.kind else 4)) = _; rw [if_pos hk0])
  have a3 : w.cell? ⟨A (.Ae k), 3, none⟩ = some (.int .i64 D.txn) := ha.aAt hb k hk he 3 _ (by show some (Value.int .i64 (if k = 0 then D.txn else (k : Int) + 1)) = _; rw [if_pos hk0])
  have a4 : w.cell? ⟨A (.Ae k), 4, none⟩ = some (.string D.item) := ha.aAt hb k hk he 4 _ (by show some (Value.string (if k = 0 then D.item else ⟨#[]⟩)) = _; rw [if_pos hk0])
  have a5 : w.cell? ⟨A (.Ae k), 5, none⟩ = some (.string D.expr) := ha.aAt hb k hk he 5 _ (by show some (Value.string (if k = 0 then D.expr else ⟨#[]⟩)) = _; rw [if_pos hk0])
  have a6 : w.cell? ⟨A (.Ae k), 6, none⟩ = some (.int .u8 D.dec) := ha.aAt hb k hk he 6 _ (by show some (Value.int .u8 (if k = 0 then D.dec else 8)) = _; rw [if_pos hk0])
  have a7 : w.cell? ⟨A (.Ae k), 7, none⟩ = some (.slice a D.nn c) := ha.aAt hb k hk he 7 _ (by show some (if k = 0 then S.nv else Value.slice none 0 0) = _; rw [if_pos hk0, hSnv])
  have a8 : w.cell? ⟨A (.Ae k), 8, none⟩ = some (.slice D.ca D.cn D.cc) := ha.aAt hb k hk he 8 _ (by show some (if k = 0 then Value.slice D.ca D.cn D.cc else Value.slice none 0 0) = _; rw [if_pos hk0])
  have m7 : V.e7 < W.heap.size := (Array.getElem?_eq_some_iff.1 ha.vars.e7).1
  have ce7 : ∀ w', Below W.heap.size W w' → ∀ j, w'.cell? ⟨V.e7, j, none⟩ = D.evA[j]? := fun w' hb' j => (hb'.cell (p := ⟨V.e7, j, none⟩) m7).trans (cell_of ha.vars.e7 j)
  have z0 : w.cell? ⟨V.e7, 0, none⟩ = some (.int .i64 D.step) := ce7 w hb 0
  have z5 : w.cell? ⟨V.e7, 5, none⟩ = some (.int .u8 D.dec) := ce7 w hb 5
  have z6 : w.cell? ⟨V.e7, 6, none⟩ = some (.slice D.na D.nn D.nc) := ce7 w hb 6
  have mob : ob < W.heap.size := (Array.getElem?_eq_some_iff.1 ha.op).1
  have co : ∀ j, w.cell? ⟨ob, j, none⟩ = _ := fun j => (hb.cell (p := ⟨ob, j, none⟩) mob).trans (cell_of ha.op j)
  have o0 : w.cell? ⟨ob, 0, none⟩ = some (.int .u8 D.kind) := co 0
  have o1 : w.cell? ⟨ob, 1, none⟩ = some (.int .i64 D.txn) := co 1
  have o2 : w.cell? ⟨ob, 2, none⟩ = some (.string D.item) := co 2
  have o3 : w.cell? ⟨ob, 3, none⟩ = some (.string D.expr) := co 3
  obtain ⟨cb, cd, hcy2, hcy⟩ := ha.cyc
  have heq : ∀ w', Below W.heap.size W w' → _ := fun w' hb' => equal_same D.ca cb D.cn D.cc cd D.cx w' hD.cycLen (by have := hD.cnB; omega) (fun q x hx => by
    obtain ⟨p, h1, h2, h3⟩ := hD.cyc q x hx
    refine ⟨p, h1, ?_⟩
    rw [hb'.cell (by rw [add_block]; have := ha.old.size; omega)]
    exact (ha.old.cell (by rw [add_block]; exact h2)).trans h3) (fun q x hx => by
    obtain ⟨p, h1, h2⟩ := hcy q x hx
    refine ⟨p, h1, ?_⟩
    rw [hb'.cell ?_]
    · exact h2
    · rcases Nat.lt_or_ge (p.add q).block W.heap.size with h | h
      · exact h
      · simp [World.cell?, Array.getElem?_eq_none h] at h2)
  have n1 := neq_113
  have n2 := neq_4
  have n3 := neq_127
  have n4 : ∀ w, _ := fun w => Lib.run_eql_slice_nil (P := Yba.prog) w 25 3 D.ca D.cn D.cc 0 0 Yba.underlying25
  have n5 : ∀ w, _ := fun w => Lib.run_eql_slice_nil (P := Yba.prog) w 117 125 a D.nn c 0 0 Yba.underlying117
  have n6 : ∀ w, _ := fun w => Lib.run_eql_slice_nil (P := Yba.prog) w 22 119 D.na D.nn D.nc 0 0 Yba.underlying22
  have HS := hid sl
  have HEV := hid hev
  have HB := hid hb
  have HE := hid heq
  have HA := hid ha
  have HD := hid hD
  have HK := hid (And.intro hSkn (And.intro hn0 hn1))
  have HCE := hid ce7
  conv => arg 2; whnf
  unfold frm
  rw [sl.sl.sl.s1, sl.sl.sl.s7, sl.sl.s39, sl.sl.s40, sl.s54, sl.s55, s60, hcy2]
  unfold ptr
  clear ha hb hev sl s60 hk0 hD hdid hSnv hSkn hn0 hn1 co hcy heq ce7
  go_wp2_with fail
  go_quiet (fail)
  go_upto_region 136 with (go_at_call 11; refine (HE.out _ (below_drewN HB.out nq)).mono ?_; rintro e W1 ⟨rfl, m, rfl⟩)
  generalize hw2 : w.drewN (nq + m) = w2
  have b2 : Below W.heap.size W w2 := by rw [← hw2]; exact below_drewN HB.out _
  have y7 : w2.cell? ⟨A (.Ae k), 7, none⟩ = some (.slice a D.nn c) := by rw [← hw2]; simpa using a7
  have y6 : w2.cell? ⟨V.e7, 6, none⟩ = some (.slice D.na D.nn D.nc) := by rw [← hw2]; simpa using z6
  have ev2 : Ev D W.heap.size ev k w2 := by rw [← hw2]; exact Ev.keep HEV.out (fun _ _ => rfl)
  have HB2 := hid b2
  have HE2 := hid ev2
  clear hw2 b2 ev2 a1 a2 a3 a4 a5 a6 a7 a8 z0 z5 z6 o0 o1 o2 o3 HEV
  rcases Nat.eq_zero_or_pos D.nn with hz | hz
  · have hnone : a.isNone = D.na.isNone := by
      obtain ⟨c0, hc0⟩ := HK.out.2.1 hz
      obtain ⟨a', c', h1, h2⟩ := HA.out.nv0
      rw [hc0] at h1
      injection h1 with h1a
      subst h1a
      cases a <;> cases hna : D.na <;> simp [hna] at h2 ⊢
    rw [hnone, hz] at n5
    rw [hz] at n6 y7 y6
    clear hz hnn hnn' hnn0 hnone
    go_wp2_with fail
    refine in_frm9 _ (by rfl) ?_
    intro f' hf'
    rw [HM.out]
    refine ⟨f', rfl, HS.out.of (fun i hi => ?_), hf' 60, HE2.out, HB2.out⟩
    simp [slL] at hi
    rcases hi with rfl | rfl | rfl | rfl | rfl | rfl | rfl | rfl | rfl | rfl | rfl | rfl | rfl | rfl | rfl | rfl | rfl | rfl | rfl | rfl | rfl | rfl | rfl | rfl | rfl | rfl | rfl <;> first | exact hf' _ | exact (hf' 1).trans HS.out.sl.sl.s1.symm | exact (hf' 7).trans HS.out.sl.sl.s7.symm | exact (hf' 39).trans (hcy2.symm.trans HS.out.sl.s39.symm) | exact (hf' 40).trans HS.out.sl.s40.symm | exact (hf' 54).trans HS.out.s54.symm | exact (hf' 55).trans HS.out.s55.symm
  · have hzi : ((D.nn : Int) == 0) = false := by simp; omega
    have ha' := HK.out.2.2 hz
    subst ha'
    obtain ⟨I, hI⟩ : ∃ I : Act → World → Prop, I = fun a w1 => ∃ (f1 : Nat → Value) (q : Nat), a = ⟨frm f1, []⟩ ∧ SlB D V A cap nv nv2 cy2 ob k ev f1 ∧ f1 60 = ptr (A (.Ae k)) ∧ f1 62 = .slice (some ⟨A .kn, 0, none⟩) D.nn c ∧ f1 63 = .int .i64 q ∧ q ≤ D.nn ∧ Ev D W.heap.size ev k w1 ∧ Below W.heap.size W w1 := ⟨_, rfl⟩
    obtain ⟨N, hN⟩ : ∃ N : Act → World → Nat, N = fun a _ => D.nn - (intOf (nth a.tmps.toList 63)).toNat := ⟨_, rfl⟩
    have HI := hid hI
    have HN := hid hN
    clear hI hN
    go_wp2_with fail
    refine wp_loop I N ?_ ?_
    · rw [HI.out]
      refine in_frm9 (M := fun a w1 => ∃ (f1 : Nat → Value) (q : Nat), a = ⟨frm f1, []⟩ ∧ SlB D V A cap nv nv2 cy2 ob k ev f1 ∧ f1 60 = ptr (A (.Ae k)) ∧ f1 62 = .slice (some ⟨A .kn, 0, none⟩) D.nn c ∧ f1 63 = .int .i64 q ∧ q ≤ D.nn ∧ Ev D W.heap.size ev k w1 ∧ Below W.heap.size W w1) _ (by rfl) ?_
      intro f' hf'
      refine ⟨f', 0, rfl, HS.out.of (fun i hi => ?_), hf' 60, hf' 62, hf' 63, by omega, HE2.out, HB2.out⟩
      simp [slL] at hi
      rcases hi with rfl | rfl | rfl | rfl | rfl | rfl | rfl | rfl | rfl | rfl | rfl | rfl | rfl | rfl | rfl | rfl | rfl | rfl | rfl | rfl | rfl | rfl | rfl | rfl | rfl | rfl | rfl <;> first | exact hf' _ | exact (hf' 1).trans HS.out.sl.sl.s1.symm | exact (hf' 7).trans HS.out.sl.sl.s7.symm | exact (hf' 39).trans (hcy2.symm.trans HS.out.sl.s39.symm) | exact (hf' 40).trans HS.out.sl.s40.symm | exact (hf' 54).trans HS.out.s54.symm | exact (hf' 55).trans HS.out.s55.symm
    clear HB2 HE2 y6 y7
    intro a1 w1 h1
    rw [HI.out] at h1
    obtain ⟨f1, q, rfl, sl1, e60, e62, e63, hq, hev1, hb1⟩ := h1
    unfold frm
    rw [e62, e63, sl1.sl.sl.s7]
    unfold ptr
    have HS1 := hid sl1
    have H60 := hid e60
    clear sl1 e60
    by_cases hql : q < D.nn
    · have hqi : (q : Int) < (D.nn : Int) := by omega
      have hqp : (0 : Int) ≤ (q : Int) := by omega
      have kq : w1.cell? ⟨A .kn, q, none⟩ = some (.iface 121 (.agg #[.string (D.nit q), .int .i64 (D.nvl q)])) := by
        refine HA.out.at_ hb1 .kn q _ ?_
        show S.kn q = _
        rw [HK.out.1]
        show (if q < D.nn then some (plainV (ntD D ib) q) else none) = _
        rw [if_pos hql]
        rfl
      have t1 := as_plain
      obtain ⟨na, hna, hnb, d0, d1, d2⟩ := HD.out.note q hql
      have hBW : w0.heap.size ≤ W.heap.size := HA.out.old.size
      have hnbW : na.block < W.heap.size := by omega
      have fin : ∀ W3 : World, Below W.heap.size W W3 → W3.cell? ⟨V.e7, 6, none⟩ = some (.slice (some na) D.nn D.nc) ∧ W3.cell? ⟨(na.add (q * 3)).block, (na.add (q * 3)).off + 1, none⟩ = some (.string (D.nit q)) ∧ W3.cell? ⟨(na.add (q * 3)).block, (na.add (q * 3)).off + 2, none⟩ = some (.int .i64 (D.nvl q)) := by
        intro W3 hb3
        have hcell : ∀ j, W3.cell? (na.add j) = w0.cell? (na.add j) := fun j => by
          rw [hb3.cell (by rw [add_block]; exact hnbW)]
          exact HA.out.old.cell (by rw [add_block]; exact hnb)
        refine ⟨?_, ?_, ?_⟩
        · rw [HCE.out W3 hb3 6, ← hna]; rfl
        · rw [show (⟨(na.add (q * 3)).block, (na.add (q * 3)).off + 1, none⟩ : Addr) = (na.add (q * 3)).add 1 from rfl, Addr.add_add]; exact (hcell _).trans d1
        · rw [show (⟨(na.add (q * 3)).block, (na.add (q * 3)).off + 2, none⟩ : Addr) = (na.add (q * 3)).add 2 from rfl, Addr.add_add]; exact (hcell _).trans d2
      have HFIN := hid fin
      have HB1 := hid hb1
      have HE1 := hid hev1
      have n121 := neq_121
      clear fin d0 d1 d2 hb1 hev1
      go_upto_region 146 with fail
      generalize hW3 : w1.alloc _ = W3
      have hb3 : Below W.heap.size W W3 := by
        rw [← hW3]
        exact HB1.out.alloc HB1.out.size _
      have ev3 : Ev D W.heap.size ev k W3 := by
        rw [← hW3]
        exact Ev.keep HE1.out (fun b hb => heap_alloc_old _ _ hb)
      obtain ⟨x6, x1, x2⟩ := HFIN.out W3 hb3
      have y0 : W3.cell? ⟨w1.heap.size, 0, none⟩ = some (.string (D.nit q)) := by rw [← hW3]; simp
      have y1 : W3.cell? ⟨w1.heap.size, 1, none⟩ = some (.int .i64 (D.nvl q)) := by rw [← hW3]; simp
      have HB3 := hid hb3
      have HE3 := hid ev3
      clear hW3 hb3 ev3 kq
      go_quiet (fail)
      go_wp2_with fail
      refine fin10 (D.nn - q) (by rfl) (by rw [HN.out]; simp [nth, intOf]) ?_
      intro f' hf'
      rw [HI.out, HN.out]
      refine ⟨⟨f', q + 1, rfl, HS1.out.of (fun i hi => ?_), (hf' 60).trans H60.out, hf' 62, (hf' 63).trans ?_, by omega, Ev.keep HE3.out (fun _ _ => rfl), below_drewN HB3.out _⟩, ?_⟩
      · simp [slL] at hi
        rcases hi with rfl | rfl | rfl | rfl | rfl | rfl | rfl | rfl | rfl | rfl | rfl | rfl | rfl | rfl | rfl | rfl | rfl | rfl | rfl | rfl | rfl | rfl | rfl | rfl | rfl | rfl | rfl <;> first | exact hf' _ | exact (hf' 7).trans HS1.out.sl.sl.s7.symm
      · show Value.int _ _ = _
        go_num
      · show D.nn - (intOf (nth (frm f').toList 63)).toNat < _
        rw [show nth (frm f').toList 63 = f' 63 from rfl, hf' 63]
        simp [nth, intOf]
        omega
    · have : q = D.nn := by omega
      subst this
      have HB1 := hid hb1
      have HE1 := hid hev1
      clear hb1 hev1
      go_wp2_with fail
      refine in_frm9 _ (by rfl) ?_
      intro f' hf'
      rw [HM.out]
      refine ⟨f', rfl, HS1.out.of (fun i hi => ?_), (hf' 60).trans H60.out, HE1.out, HB1.out⟩
      simp [slL] at hi
      rcases hi with rfl | rfl | rfl | rfl | rfl | rfl | rfl | rfl | rfl | rfl | rfl | rfl | rfl | rfl | rfl | rfl | rfl | rfl | rfl | rfl | rfl | rfl | rfl | rfl | rfl | rfl | rfl <;> first | exact hf' _ | exact (hf' 7).trans HS1.out.sl.sl.s7.symm
end Go.Proofs.Ybulkedxc
