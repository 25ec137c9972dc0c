/-
  LawS6516AWhole: the tied card, proved.
-/
import Derived.Test.YbulkedxqDoorTie
import Derived.Test.YbulkedxqDoorCards
import Derived.Test.YbulkedxqDoorShort
import Derived.ProofKit
import Derived.OpenShut
import Derived.ChangeOld
import Derived.Below
import Derived.LaidLaws
import Derived.LaidMore
import Derived.Stop.Joined
import Derived.Stop.LaidErr
import Derived.RowKitTokens
import Derived.SevenTiedAt
namespace Go.Proofs.YbulkedxqDoor
open Go.ChangeShapes Go.WideShapes Go.ChangeAt Go.RowKit

theorem own : ownKnob Ybad.prog.godebug = none := by kernel_rfl
theorem laidOut : laidOutB Ybad.prog = true := by kernel_rfl
theorem gE : Ybad.prog.globalNamed (Rows.lawS6516AWholeSpec.vars.headD "") = some 0 := by kernel_rfl
theorem gEType : (Ybad.prog.globals[0]?).map (·.type) = some 24 := by kernel_rfl
/-- the name of the type that the listed datum bears -/
def nmE : String := match (Rows.laid_example_com_hopring_hopring_errShortFrame : DataW Unit) with | .iface n _ => n | _ => ""
theorem row38 (u : TypeId) (h : Ybad.prog.typeName? 3 u = some nmE) : u = 38 := by
  refine typeName_ptr_named (P := Ybad.prog) (nm := "errors.errorString") ?_ (by kernel_rfl) (by decide) u ?_
  · kernel_rfl
  · rw [h]; exact congrArg some (by decide)
theorem cells40 : Ybad.prog.cellsOf 40 = 1 := by kernel_rfl
theorem cells9 : Ybad.prog.cellsOf 9 = 1 := by kernel_rfl

/-- A slice of integers that came in: it is nil; or it leads to a row of 'cap' cells. -/
def IsRow (k : IntKind) (w : World) (a : Option Addr) (len cap : Nat) (zs : List Int) : Prop :=
  (a = none ∧ len = 0 ∧ cap = 0 ∧ zs = []) ∨
  ∃ x, a = some x ∧ len ≤ cap ∧ cap ≤ maxLen ∧ zs.length = cap ∧ (∀ i, i < zs.length → w.cell? (x.add i) = some (.int k (zs.getD i 0))) ∧ ∀ n ∈ zs, (Lit.int k n).wf = true

theorem big (a0 : Option Addr) (n c : Nat) (nar sel : Int) (w : World) (hn : 1048576 < n) :
    Calls Ybad.prog 3 #[.slice a0 n c, .int .u8 nar, .int .u8 sel] w fun e w' => e = .returned (.bool true) ∧ Below w.heap.size w w' := by
  go_enter Ybad.func3, Ybad.ntmps3
  go_wp2
  go_ret
  exact ⟨rfl, Below.refl _ _⟩

theorem walk (a0 : Option Addr) (len0 cap0 : Nat) (z0 : List Int) (nar : Int) (sel : Int) (w : World) (w0 : IsRow .u8 w a0 len0 cap0 z0) (w2 : (Lit.int .u8 sel).wf = true)
    (e1 : Addr) (hg : w.cell? ⟨0, 0, none⟩ = some (.iface 38 (.pointer (some e1)))) :
    Calls Ybad.prog 3 #[.slice a0 len0 cap0, .int .u8 nar, .int .u8 sel] w fun e w' => e = .returned (.bool true) ∧ Below w.heap.size w w' := by
  have hb : 0 ≤ sel ∧ sel ≤ 255 := by
    have := w2
    simp [Lit.wf, IntKind.min, IntKind.max, IntKind.signed, IntKind.bits] at this
    omega
  have hs : sel % 3 = 0 ∨ sel % 3 = 1 ∨ sel % 3 = 2 := by omega
  have h0 : 0 < w.heap.size := by
    rcases Nat.lt_or_ge 0 w.heap.size with h | h
    · exact h
    · simp [World.cell?, Array.getElem?_eq_none h] at hg
  by_cases hbig : 1048576 < len0
  · exact big a0 len0 cap0 nar sel w hbig
  rcases w0 with ⟨rfl, rfl, rfl, rfl⟩ | ⟨x, rfl, hlc, hcm, hzl, hcell, hwz⟩
  · rcases hs with h | h | h
    · exact nil_0 nar sel e1 w hg h0 hb.1 hb.2 h
    · exact nil_1 nar sel e1 w hg h0 hb.1 hb.2 h
    · exact nil_2 nar sel e1 w hg h0 hb.1 hb.2 h
  · by_cases hz : len0 = 0
    · subst hz
      rcases hs with h | h | h
      · exact zero_0 x cap0 nar sel e1 w hg h0 hb.1 hb.2 h
      · exact zero_1 x cap0 nar sel e1 w hg h0 hb.1 hb.2 h
      · exact zero_2 x cap0 nar sel e1 w hg h0 hb.1 hb.2 h
    obtain ⟨g, o, rfl, hc⟩ := ints_at hcell (by omega)
    have hcc : ∀ j, j < len0 → w.cell? ⟨g, o + j, none⟩ = some (.int .u8 (z0.getD j 0)) := fun j hj => hc j (by omega)
    have hgs : g < w.heap.size := by
      rcases Nat.lt_or_ge g w.heap.size with h | h
      · exact h
      · have := hcc 0 (by omega)
        simp [World.cell?, Array.getElem?_eq_none h] at this
    have hx : Byt fun j => z0.getD j 0 := by
      intro j
      rcases Nat.lt_or_ge j z0.length with h | h
      · have hm : z0.getD j 0 ∈ z0 := by
          rw [List.getD_eq_getElem?_getD, List.getElem?_eq_getElem h]; exact List.getElem_mem h
        have := hwz _ hm
        simp [Lit.wf, IntKind.min, IntKind.max, IntKind.signed, IntKind.bits] at this
        simp only [List.getD_eq_getElem?_getD]
        omega
      · have : z0.getD j 0 = 0 := by rw [List.getD_eq_getElem?_getD, List.getElem?_eq_none h]; rfl
        simp only [this]; omega
    rcases hs with h | h | h
    · by_cases h8 : len0 < 8
      · exact law_short g o len0 cap0 _ nar sel e1 w h8 (by omega) hgs hcc hg h0 hb.1 hb.2 h
      · by_cases h8' : len0 = 8
        · subst h8'
          exact law_eight g o cap0 _ hx nar sel w hlc hgs hcc hb.1 hb.2 h
        · exact law_more g o len0 cap0 _ hx nar sel w (by omega) (by omega) hlc hgs hcc hb.1 hb.2 h
    · exact law_p1 g o len0 cap0 _ nar sel e1 w (by omega) hgs hcc hg h0 hb.1 hb.2 h
    · exact law_p2 g o len0 cap0 _ nar sel e1 w (by omega) hgs hcc hg h0 hb.1 hb.2 h

/-- The door's own heap meets the condition. -/
theorem door_met (os : Os) (args : Array Value) : laidMetH Ybad.prog Rows.lawS6516AWholeRow.laid ((World.doorLaid Ybad.prog 400 os).forCall (fun _ _ => 0) ⟨#[], args, []⟩).memory :=
  laidMetH_of_parts3 (fuel := 8) (laidMet_of_run' 8 (by kernel_rfl) (by kernel_rfl)) (by kernel_rfl) (by kernel_rfl)

set_option maxRecDepth 100000 in
theorem lifted (os : Os) (started : os.Started) (H : Type) (enc : TypeId × Value → H) :
    ReturnsInHanded {} Ybad.checked os 3 .any (fun w args => (Rows.lawS6516AWholeSpec.pre enc Ybad.prog Ybad.f3 [] false w args ∧ laidMetH Ybad.prog Rows.lawS6516AWholeRow.laid w) ∧ sizedMet enc Ybad.prog Ybad.f3 (OpenSpec.ofChange Rows.lawS6516AWholeSpec) false w args)
      (Rows.lawS6516AWholeSpec.post enc Ybad.prog Ybad.f3 false true false false) := by
  refine returnsInHanded_of_change_and (C := Ybad.checked) (X := fun w _ => laidMetH Ybad.prog Rows.lawS6516AWholeRow.laid w) (fun _ _ _ hh h => h.of_heap hh) own started (by kernel_rfl) Ybad.func3
    (ChangeSpec.witness_shaped (enc := enc) (C := Ybad.checked) (os := os) (X := fun w _ => laidMetH Ybad.prog Rows.lawS6516AWholeRow.laid w) false (World.doorLaid Ybad.prog 400 os) #[.slice none 0 0, .int .u8 0, .int .u8 0] 8 rfl (World.shaped_of_RefB (by kernel_rfl) (by kernel_rfl)) (by kernel_rfl) (by kernel_rfl) (by kernel_rfl) (door_met os _)) ?_
  intro W base args ds gs before hval0 hW _ _ hL _
  have hval : ∀ (j : Nat) t v, Ybad.f3.params[j]? = some t → args[j]? = some v → Value.okWide Ybad.prog W .any base t v := hval0
  have hW' := hW
  obtain ⟨p, q, hA0, hV0, rfl, hfz, hnd⟩ := hW
  have hA : DataW.TrodAll enc Ybad.prog W 0 (fun _ => true) true Ybad.f3.params.toList args.toList ds p := hA0
  have hV : DataW.TrodVars enc Ybad.prog W (fun _ => true) [Rows.lawS6516AWholeSpec.vars.headD ""] gs q := hV0
  rw [Ybad.params3] at hA hval
  obtain ⟨v0, vs0, d0, ds0, p0, q0, hargs, rfl, rfl, h0, r0⟩ := trodAll_cons hA
  obtain ⟨v1, vs1, d1, ds1, p1, q1, rfl, rfl, rfl, h1, r1⟩ := trodAll_cons r0
  obtain ⟨v2, vs2, d2, ds2, p2, q2, rfl, rfl, rfl, h2, r2⟩ := trodAll_cons r1
  obtain ⟨rfl, rfl, rfl⟩ := trodAll_nil r2
  obtain rfl : args = #[v0, v1, v2] := by cases args; simp_all
  rw [MakeChecks.laidMetH_plain _ _ _ (by kernel_rfl)] at hL
  obtain ⟨e1, s1, hv1, hc1, hs1, hz1⟩ := laid_sentinel hL gE gEType Ybad.underlying24 row38 Ybad.underlying38 Ybad.underlying40 rfl rfl Ybad.underlying9 cells40 cells9
  obtain ⟨rfl, rfl⟩ := hV.unique (vars_read1 enc gE gEType Ybad.underlying24 hv1 trivial _)
  have hg : W.cell? ⟨0, 0, none⟩ = some (.iface 38 (.pointer (some e1))) := by simpa using World.var?_cell gE hv1 0
  have h0lt : 0 < W.heap.size := by
    rcases Nat.lt_or_ge 0 W.heap.size with h | h
    · exact h
    · simp [World.cell?, Array.getElem?_eq_none h] at hg
  obtain ⟨a0, len0, cap0, rfl⟩ := okWide_slice Ybad.underlying22 (hval 0 22 v0 rfl rfl)
  have k0 := h0
  have lt0 : ∀ x ∈ p0, x.block < W.heap.size := by obtain ⟨m, hm⟩ := k0; exact DataW.trod_lt m _ _ _ hm
  obtain ⟨z0, w0⟩ : ∃ zs, IsRow .u8 W a0 len0 cap0 zs := by
    obtain ⟨fuel, hf⟩ := h0
    rcases open_ints Ybad.underlying22 Ybad.underlying5 (by kernel_rfl) hf with ⟨hcs, _⟩ | ⟨x, l, c, zs, hcs, _, hl, hm, hz, _, hcell, hwz⟩
    · simp [Value.cells] at hcs
      obtain ⟨rfl, rfl, rfl⟩ := hcs
      exact ⟨[], .inl ⟨rfl, rfl, rfl, rfl⟩⟩
    · simp [Value.cells] at hcs
      obtain ⟨rfl, rfl, rfl⟩ := hcs
      exact ⟨zs, .inr ⟨_, rfl, hl, hm, by simpa using hz, hcell, hwz⟩⟩
  obtain ⟨a1, rfl, rfl, rfl, w1⟩ := open_int Ybad.underlying5 (hval 1 5 v1 rfl rfl) h1
  obtain ⟨a2, rfl, rfl, rfl, w2⟩ := open_int Ybad.underlying5 (hval 2 5 v2 rfl rfl) h2
  clear hA0 hV0 hval0
  refine (walk a0 len0 cap0 z0 a1 a2 W w0 w2 e1 hg).mono fun e W' ⟨he, bel⟩ => ?_
  subst he
  exact ⟨_, rfl, _, _, _, [], _, [.cell 0 0], hW', trodAll_mk1 (shut_bool Ybad.underlying4 _), (trodAll_cons_mk (Below.trod laidOut (by kernel_rfl) (of_decide_eq_true (by kernel_rfl)) k0 bel lt0) (trodAll_cons_mk (shut_int Ybad.underlying5 w1) (trodAll_cons_mk (shut_int Ybad.underlying5 w2) trodAll_mk0))), vars_read1 enc gE gEType Ybad.underlying24 (var?_below bel gE h0lt hv1) trivial _, bel.frame _, fun h => by cases h⟩

theorem said : Rows.LawS6516AWholeSaid :=
  OpenClaim.holds_of_wide 3 Ybad.f3 rfl rfl rfl rfl rfl rfl rfl ⟨rfl, rfl, rfl, rfl, rfl⟩ rfl rfl rfl rfl rfl (by kernel_rfl) Ybad.func3 (by kernel_rfl)
    (of_decide_eq_true (by kernel_rfl)) (by unfold Func.isWrapper; first | (rw [if_pos (by decide +kernel)]; kernel_rfl) | (rw [if_neg (by decide +kernel)]; exact ⟨rfl, rfl⟩))
    (fun os started H enc _ => lifted os started H enc)

theorem proved : Rows.LawS6516AWholeCardSaid :=
  Claim7.holds_tied_plain_at .later [] [.called] true Rows.lawS6516AWholeCard.stood.harness true
    said (fun _ h => by cases h) (by kernel_rfl) (fun _ h => by cases h) lawS6516AWhole_row_tie rfl ⟨rfl, rfl⟩ (by kernel_rfl) rfl
    (fun f fn hf hfn => by
      obtain rfl : f = 3 := Option.some.inj ((show Ybad.prog.funcNamed Rows.lawS6516AWholeRow.func = some 3 by kernel_rfl).symm.trans hf) |>.symm
      obtain rfl : fn = Ybad.f3 := (Option.some.inj (Ybad.func3.symm.trans hfn)).symm
      exact ⟨by kernel_rfl, fun j t ht => by
        rw [Ybad.params3] at ht
        have hm : t ∈ [22, 5, 5] := by simpa using Array.mem_of_getElem? ht
        have hall : ([22, 5, 5].all fun u => !Ybad.prog.wantsStandIn u) = true := by kernel_rfl
        exact (show Ybad.prog.wantsStandIn t = false by simpa using List.all_eq_true.1 hall t hm)⟩)
    (by kernel_rfl)
end Go.Proofs.YbulkedxqDoor
