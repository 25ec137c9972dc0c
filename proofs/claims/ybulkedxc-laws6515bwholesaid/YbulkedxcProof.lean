/-
  LawS6515BWhole: the statement.
-/
import Derived.Test.YbulkedxcRows
import Derived.Test.YbulkedxcIn
namespace Go.Proofs.Ybulkedxc.lawS6515BWhole
open Go.ChangeShapes Go.WideShapes Go.ChangeAt Go.RowKit
set_option linter.unusedSimpArgs false
set_option linter.constructorNameAsVariable false
set_option linter.unusedVariables false
set_option linter.unnecessarySimpa false

theorem own : ownKnob Yba.prog.godebug = none := by kernel_rfl
theorem laid : laidOutB Yba.prog = true := by kernel_rfl
theorem Old.same {W w' : World} (h : Old W.heap.size W w') {p : MemPlace} (hp : p.block < W.heap.size) : W.sameAt w' p := by
  cases p with
  | cell b o =>
    have hb : b < W.heap.size := hp
    simp only [World.sameAt, World.cell?, h.block b hb]
  | map b =>
    have hb : b < W.heap.size := hp
    simp only [World.sameAt, h.block b hb]
theorem Old.frame {W w' : World} (h : Old W.heap.size W w') (may : MemPlace → Prop) : W.keptBut w' may := by
  refine ⟨h.os, h.output, fun i hi => ?_⟩
  rw [h.block i hi]
  split <;> simp_all
theorem agg_of {t : TypeId} {v : Value} {W : World} {base : Nat} (hs : ∃ d, Yba.prog.underlying t = some d ∧ (match d with | .struct _ | .array _ _ => true | _ => false) = true) (h : Value.okWide Yba.prog W .any base t v) : ∃ cs, v = .agg cs := by
  obtain ⟨d, hd, hm⟩ := hs
  unfold Value.okWide at h
  rw [hd] at h
  cases d with
  | struct fs => obtain ⟨cs, e, _⟩ := h; exact ⟨cs, e⟩
  | array n e => obtain ⟨cs, e, _⟩ := h; exact ⟨cs, e⟩
  | _ => cases hm

set_option maxRecDepth 100000 in
theorem lifted (os : Os) (started : os.Started) (H : Type) (enc : TypeId × Value → H) :
    ReturnsInHanded {} Yba.checked os 3 .any (Rows.lawS6515BWholeSpec.pre6 enc Yba.prog Yba.f3 Rows.lawS6515BWholeRow.domain false) (Rows.lawS6515BWholeSpec.post enc Yba.prog Yba.f3 false true false false) := by
  refine returnsInHanded_of_change (C := Yba.checked) own started (by kernel_rfl) Yba.func3
    (ChangeSpec.witness6 (enc := enc) (C := Yba.checked) false ⟨#[], #[.agg #[.int .i64 0, .int .u8 0, .int .i64 0, .string ByteArray.empty, .string ByteArray.empty, .int .u8 0, .slice none 0 0], .slice none 0 0, .agg #[.bool false, .bool false, .bool false, .bool false, .bool false, .int .u8 0, .int .u8 0], .slice none 0 0, .agg #[.int .i64 0, .int .i64 0, .int .i64 0, .int .i64 0, .int .i64 0, .int .i64 0, .int .i64 0, .int .i64 0], .agg #[.int .i64 0, .int .i64 0, .int .i64 0, .int .i64 0], .agg #[.int .i64 0, .int .i64 0, .int .i64 0, .int .i64 0]], []⟩ 8 (by kernel_rfl) (by kernel_rfl) (by kernel_rfl) (by kernel_rfl)) ?_
  intro W base args ds gs before hval0 hW hcnd _
  have hval : ∀ (j : Nat) t v, Yba.f3.params[j]? = some t → args[j]? = some v → Value.okWide Yba.prog W .any base t v := hval0
  have hW' := hW
  obtain ⟨p, q, hA0, hV, rfl, hfz, hnd⟩ := hW
  have hA : DataW.TrodAll enc Yba.prog W 0 (fun _ => true) true Yba.f3.params.toList args.toList ds p := hA0
  rw [Yba.params3] at hA hval
  obtain ⟨v0, vs0, d0, ds0, p0, q0, hargs0, rfl, rfl, h0, r0⟩ := trodAll_cons hA
  obtain ⟨v1, vs1, d1, ds1, p1, q1, hargs1, rfl, rfl, h1, r1⟩ := trodAll_cons r0
  obtain ⟨v2, vs2, d2, ds2, p2, q2, hargs2, rfl, rfl, h2, r2⟩ := trodAll_cons r1
  obtain ⟨v3, vs3, d3, ds3, p3, q3, hargs3, rfl, rfl, h3, r3⟩ := trodAll_cons r2
  obtain ⟨v4, vs4, d4, ds4, p4, q4, hargs4, rfl, rfl, h4, r4⟩ := trodAll_cons r3
  obtain ⟨v5, vs5, d5, ds5, p5, q5, hargs5, rfl, rfl, h5, r5⟩ := trodAll_cons r4
  obtain ⟨v6, vs6, d6, ds6, p6, q6, hargs6, rfl, rfl, h6, r6⟩ := trodAll_cons r5
  obtain ⟨rfl, rfl, rfl⟩ := trodAll_nil r6
  subst hargs6 hargs5 hargs4 hargs3 hargs2 hargs1
  obtain rfl : args = #[v0, v1, v2, v3, v4, v5, v6] := by cases args; simp_all
  obtain ⟨rfl, rfl⟩ := trodVars_none hV
  have hlt : ∀ x ∈ p0 ++ (p1 ++ (p2 ++ (p3 ++ (p4 ++ (p5 ++ (p6 ++ [])))))) ++ [], x.block < W.heap.size := fun x hx => hW'.lt x hx
  have l0 : ∀ x ∈ p0, x.block < W.heap.size := fun x hx => hlt x (by simp [hx])
  have l1 : ∀ x ∈ p1, x.block < W.heap.size := fun x hx => hlt x (by simp [hx])
  have l2 : ∀ x ∈ p2, x.block < W.heap.size := fun x hx => hlt x (by simp [hx])
  have l3 : ∀ x ∈ p3, x.block < W.heap.size := fun x hx => hlt x (by simp [hx])
  have l4 : ∀ x ∈ p4, x.block < W.heap.size := fun x hx => hlt x (by simp [hx])
  have l5 : ∀ x ∈ p5, x.block < W.heap.size := fun x hx => hlt x (by simp [hx])
  have l6 : ∀ x ∈ p6, x.block < W.heap.size := fun x hx => hlt x (by simp [hx])
  have hv0 := hval 0 24 v0 rfl rfl
  have hv1 := hval 1 25 v1 rfl rfl
  have hv2 := hval 2 27 v2 rfl rfl
  have hv3 := hval 3 28 v3 rfl rfl
  have hv4 := hval 4 30 v4 rfl rfl
  have hv5 := hval 5 31 v5 rfl rfl
  have hv6 := hval 6 31 v6 rfl rfl
  clear hval hval0 hA0 hA hargs0 hcnd hfz hnd hV hlt
  obtain ⟨c0, rfl⟩ := agg_of ⟨_, Yba.underlying24, rfl⟩ hv0
  obtain ⟨c2, rfl⟩ := agg_of ⟨_, Yba.underlying27, rfl⟩ hv2
  obtain ⟨c4, rfl⟩ := agg_of ⟨_, Yba.underlying30, rfl⟩ hv4
  obtain ⟨c5, rfl⟩ := agg_of ⟨_, Yba.underlying31, rfl⟩ hv5
  obtain ⟨c6, rfl⟩ := agg_of ⟨_, Yba.underlying31, rfl⟩ hv6
  obtain ⟨x1, y1, z1, rfl⟩ := okWide_slice Yba.underlying25 hv1
  obtain ⟨x3, y3, z3, rfl⟩ := okWide_slice Yba.underlying28 hv3
  obtain ⟨n0, t0⟩ := id h0
  obtain ⟨n1, t1⟩ := id h1
  obtain ⟨n2, t2⟩ := id h2
  obtain ⟨n3, t3⟩ := id h3
  obtain ⟨n4, t4⟩ := id h4
  obtain ⟨n5, t5⟩ := id h5
  obtain ⟨n6, t6⟩ := id h6
  have t0 : DataW.trod enc Yba.prog W 0 (fun _ => true) true n0 24 c0.toList = some (d0, p0) := t0
  have t1 : DataW.trod enc Yba.prog W 0 (fun _ => true) true n1 25 [.slice x1 y1 z1] = some (d1, p1) := t1
  have t2 : DataW.trod enc Yba.prog W 0 (fun _ => true) true n2 27 c2.toList = some (d2, p2) := t2
  have t3 : DataW.trod enc Yba.prog W 0 (fun _ => true) true n3 28 [.slice x3 y3 z3] = some (d3, p3) := t3
  have t4 : DataW.trod enc Yba.prog W 0 (fun _ => true) true n4 30 c4.toList = some (d4, p4) := t4
  have t5 : DataW.trod enc Yba.prog W 0 (fun _ => true) true n5 31 c5.toList = some (d5, p5) := t5
  have t6 : DataW.trod enc Yba.prog W 0 (fun _ => true) true n6 31 c6.toList = some (d6, p6) := t6
  obtain ⟨step, txn, kind, dec, item, expr, nv, nn0, ny, e0, tn⟩ := open24 t0
  obtain ⟨s0, e2, sr0, sr1⟩ := open27 t2
  obtain ⟨bc, e4, hbc⟩ := open30 t4
  obtain ⟨rd, e5⟩ := open31 t5
  obtain ⟨wr, e6⟩ := open31 t6
  obtain ⟨na, nn, nc, np, nit, nvl, rfl, hnn, hnote⟩ := open_notes tn
  obtain ⟨ca, cn, cc, cx, ec, hcn, hcl, hcyc⟩ := open_cycle t1
  obtain ⟨oa, on, oc, so, eo, hon, hoth⟩ := open_others t3
  have e0' : c0 = #[.int .i64 step, .int .u8 kind, .int .i64 txn, .string item, .string expr, .int .u8 dec, .slice na nn nc] := Array.ext' e0
  have e2' : c2 = spA s0 := Array.ext' e2
  have e4' : c4 = #[.int .i64 (bc 0), .int .i64 (bc 1), .int .i64 (bc 2), .int .i64 (bc 3), .int .i64 (bc 4), .int .i64 (bc 5), .int .i64 (bc 6), .int .i64 (bc 7)] := Array.ext' e4
  have e5' : c5 = four rd := Array.ext' e5
  have e6' : c6 = four wr := Array.ext' e6
  cases ec
  cases eo
  subst e0' e2' e4' e5' e6'
  have hcl1 : ∀ a, x1 = some a → a.block < W.heap.size := by
    intro a e
    subst e
    simp only [Value.okWide, Yba.underlying25, Cell.okWide, Cell.ok] at hv1
    exact has_lt hv1.2.2
  obtain ⟨D, hDe⟩ : ∃ D : Inp, D = ⟨step, kind, txn, item, expr, dec, na, nn, nc, np, nit, nvl, x1, y1, z1, cx, x3, y3, z3, (fun i => match i with | 0 => s0 | i + 1 => so i), bc, rd, wr⟩ := ⟨_, rfl⟩
  have key : Calls Yba.prog 3 #[.agg D.evA, .slice D.ca D.cn D.cc, .agg (spA (D.sp 0)), .slice D.oa D.on D.oc, .agg D.bcA, .agg (four D.rd), .agg (four D.wr)] W fun e w' => e = .returned (.bool true) ∧ Old W.heap.size W w' := by
    by_cases hbig : 1024 < D.on ∨ 65536 < D.nn ∨ 65536 < D.cn
    · exact law_big D W hbig
    · have hb : D.on ≤ 1024 ∧ D.nn ≤ 65536 ∧ D.cn ≤ 65536 := by omega
      refine law_any D W ?_ (by subst hDe; exact hnn) (by subst hDe; exact hon)
      subst hDe
      refine ⟨hnote, fun e => (hnn e).1, hcyc, hcl, hcn, hcl1, ?_, ?_, ?_, hbc, hb.1, hb.2.1, hb.2.2⟩
      · intro i hi
        obtain ⟨_, _, b, h1, h2, h3⟩ := hoth i hi
        exact ⟨b, h1, h2, h3⟩
      · intro i hi
        cases i with
        | zero => exact sr0
        | succ i => exact (hoth i hi).1
      · intro i hi
        cases i with
        | zero => exact sr1
        | succ i => exact (hoth i hi).2.1
  subst hDe
  refine key.mono fun e W' ⟨he, hB⟩ => ?_
  subst he
  have stay : ∀ {t : TypeId} {v : Value} {d : DataW H} {ps : List MemPlace}, Yba.prog.readableRec t = true → t < Yba.prog.types.size → DataW.Trod enc Yba.prog W 0 (fun _ => true) true t v d ps → (∀ x ∈ ps, x.block < W.heap.size) → DataW.Trod enc Yba.prog W' 0 (fun b => decide (b < W.heap.size)) true t v d ps := fun hr hrow h hl => WideElems.Trod_stays laid hr hrow h (fun x hx => Old.same hB (hl x hx)) (fun x hx => by simpa using hl x hx)
  refine ⟨_, rfl, _, _, _, [], p0 ++ (p1 ++ (p2 ++ (p3 ++ (p4 ++ (p5 ++ (p6 ++ [])))))), [], hW', ?_, ?_, ?_, Old.frame hB _, fun h => by cases h⟩
  · exact trodAll_mk1 (shut_bool Yba.underlying4 _)
  · exact trodAll_cons_mk (stay (by kernel_rfl) (of_decide_eq_true (by kernel_rfl)) h0 l0) (trodAll_cons_mk (stay (by kernel_rfl) (of_decide_eq_true (by kernel_rfl)) h1 l1) (trodAll_cons_mk (stay (by kernel_rfl) (of_decide_eq_true (by kernel_rfl)) h2 l2) (trodAll_cons_mk (stay (by kernel_rfl) (of_decide_eq_true (by kernel_rfl)) h3 l3) (trodAll_cons_mk (stay (by kernel_rfl) (of_decide_eq_true (by kernel_rfl)) h4 l4) (trodAll_cons_mk (stay (by kernel_rfl) (of_decide_eq_true (by kernel_rfl)) h5 l5) (trodAll_cons_mk (stay (by kernel_rfl) (of_decide_eq_true (by kernel_rfl)) h6 l6) trodAll_mk0))))))
  · rfl

theorem over : Rows.lawS6515BWholeRow.holds Yba.pinned (OpenSpec.ofChange Rows.lawS6515BWholeSpec) :=
  OpenClaim.holds_of_wide 3 Yba.f3 rfl rfl rfl rfl rfl rfl rfl ⟨rfl, rfl, rfl, rfl, rfl⟩ rfl rfl rfl rfl rfl (by kernel_rfl) Yba.func3 (by kernel_rfl)
    (of_decide_eq_true (by kernel_rfl)) (by unfold Func.isWrapper; first | (rw [if_pos (by decide +kernel)]; kernel_rfl) | (rw [if_neg (by decide +kernel)]; exact ⟨rfl, rfl⟩))
    (fun os started H enc _ => lifted os started H enc)

theorem proved : Rows.LawS6515BWholeSaid :=
  over
end Go.Proofs.Ybulkedxc.lawS6515BWhole
