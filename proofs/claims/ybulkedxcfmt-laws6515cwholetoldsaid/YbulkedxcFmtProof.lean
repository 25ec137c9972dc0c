/-
  LawS6515CWhole: the told card, proved.
-/
import Derived.Test.YbulkedxcFmtCards
import Derived.Test.YbulkedxcFmtWrap
import Derived.ProofKit
import Derived.Stop.JoinedAt
import Derived.Stop.Texts
import Derived.Stop.ErrReads
import Derived.Stop.JoinedTold
import Derived.SevenToldRow
namespace Go.Proofs.YbulkedxcFmt
open Go.ChangeShapes Go.WideShapes Go.ChangeAt Go.RowKit Go.Kit
open Go.Extern.Stop Go.Stop Go.Extern

theorem law_any (F : Interp) (t n : Int) (w : World) (hF : F.answers w.tape) (t1 : -9223372036854775808 ≤ t) (t2 : t ≤ 9223372036854775807) (n1 : -9223372036854775808 ≤ n) (n2 : n ≤ 9223372036854775807) :
    Calls Ybaf.prog 3 #[.int .i64 t, .int .i64 n] w fun e w' => e = .returned (.bool true) ∧ Below w.heap.size w w' := by
  by_cases hn : n < -9223372034707292160
  · have hw : wrap64 (2147483647 - n) = 2147483647 - 18446744073709551616 - n := by unfold wrap64; omega
    by_cases hr : wrap64 (2147483647 - n) < t
    · refine law_wrap t n w true (.iface 106 (.pointer (some ⟨w.heap.size + 2, 0, none⟩))) (Or.inl ⟨rfl, _, rfl⟩) ?_ t1 t2 n1 hn n2 ?_
      · rw [hw] at hr; simp only [true_eq_decide_iff]; omega
      · intro W hW hS hc
        refine (room_no F w.heap.size t n W (by intro i name reading k range; rw [hW]; exact hF i name reading k range) hc hr).mono ?_
        rintro e w' ⟨rfl, hb⟩
        exact ⟨by rw [hS], hb⟩
    · refine law_wrap t n w false .nilIface (Or.inr ⟨rfl, rfl⟩) ?_ t1 t2 n1 hn n2 ?_
      · rw [hw] at hr; simp only [false_eq_decide_iff]; omega
      · intro W _ _ hc
        exact room_yes w.heap.size t n W hc hr
  · have hw : wrap64 (2147483647 - n) = 2147483647 - n := by unfold wrap64; omega
    by_cases hr : wrap64 (2147483647 - n) < t
    · refine law_plain t n w true (.iface 106 (.pointer (some ⟨w.heap.size + 2, 0, none⟩))) (Or.inl ⟨rfl, _, rfl⟩) ?_ t1 t2 n1 (by omega) n2 ?_
      · rw [hw] at hr; simp only [true_eq_decide_iff]; omega
      · intro W hW hS hc
        refine (room_no F w.heap.size t n W (by intro i name reading k range; rw [hW]; exact hF i name reading k range) hc hr).mono ?_
        rintro e w' ⟨rfl, hb⟩
        exact ⟨by rw [hS], hb⟩
    · refine law_plain t n w false .nilIface (Or.inr ⟨rfl, rfl⟩) ?_ t1 t2 n1 (by omega) n2 ?_
      · rw [hw] at hr; simp only [false_eq_decide_iff]; omega
      · intro W _ _ hc
        exact room_yes w.heap.size t n W hc hr

theorem own : ownKnob Ybaf.prog.godebug = none := by kernel_rfl
theorem laidOut : laidOutB Ybaf.pinned.checked.prog = true := by kernel_rfl
theorem stopsF : Ybaf.pinned.checked.prog.stops = ["fmt.errorf"] := by kernel_rfl
theorem stopKnobs : Ybaf.pinned.checked.prog.stopKnobs = [] := by kernel_rfl
theorem quietF (os : Os) : Stop.quiet Ybaf.pinned.checked.prog os := by
  intro k hk
  rw [stopKnobs] at hk
  cases hk

set_option maxRecDepth 100000 in
theorem lifted (os : Os) (started : os.Started) (H : Type) (enc : TypeId × Value → H) :
    ReturnsInTold none {} Ybaf.checked os 3 .any Input.okWide ((OpenSpec.ofChange Rows.lawS6515CWholeSpec).preRow enc Ybaf.prog Ybaf.f3 [] false []) (fun F => ((OpenSpec.ofChange Rows.lawS6515CWholeSpec).at F).post enc Ybaf.prog Ybaf.f3 false true false false) (aloneAtReturn Ybaf.prog) nothingAlways := by
  refine returnsInTold_of_row (C := Ybaf.checked) (s := OpenSpec.ofChange Rows.lawS6515CWholeSpec) (by kernel_rfl) own started (by kernel_rfl) Ybaf.func3
    (OpenSpec.witness_stopped (enc := enc) (C := Ybaf.checked) false ⟨#[], #[.int .i64 0, .int .i64 0], []⟩ 8 (by kernel_rfl) (by kernel_rfl) (by kernel_rfl) (by kernel_rfl)) ?_
  intro F W base args ds gs before _ hF hval0 hW _ _ _ _ _
  have hval : ∀ (j : Nat) t v, Ybaf.f3.params[j]? = some t → args[j]? = some v → Value.okWide Ybaf.prog W .any base t v := hval0
  have hW' := hW
  obtain ⟨p, q, hA0, hV, rfl, hfz, hnd⟩ := hW
  have hA : DataW.TrodAll enc Ybaf.prog W 0 (fun _ => true) true Ybaf.f3.params.toList args.toList ds p := hA0
  rw [Ybaf.params3] at hA hval
  obtain ⟨v0, v1, d0, d1, p0, p1, rfl, rfl, rfl, h0, h1⟩ := trodAll_two hA
  obtain ⟨rfl, rfl⟩ := trodVars_none hV
  obtain ⟨t, rfl, rfl, rfl, wt⟩ := open_int Ybaf.underlying3 (hval 0 3 v0 rfl rfl) h0
  obtain ⟨n, rfl, rfl, rfl, wn⟩ := open_int Ybaf.underlying3 (hval 1 3 v1 rfl rfl) h1
  clear hA0 hval0
  have bt : -9223372036854775808 ≤ t ∧ t ≤ 9223372036854775807 := by
    have := wt
    simp [Lit.wf, IntKind.min, IntKind.max, IntKind.signed, IntKind.bits] at this
    omega
  have bn : -9223372036854775808 ≤ n ∧ n ≤ 9223372036854775807 := by
    have := wn
    simp [Lit.wf, IntKind.min, IntKind.max, IntKind.signed, IntKind.bits] at this
    omega
  refine (law_any F.told t n W hF bt.1 bt.2 bn.1 bn.2).mono fun e W' ⟨he, hB⟩ => ?_
  subst he
  refine ⟨_, rfl, _, _, _, [], [] ++ [], [], hW', ?_, ?_, ?_, hB.frame _, fun h => by cases h⟩
  · exact trodAll_mk1 (shut_bool Ybaf.underlying4 _)
  · exact trodAll_mk2 (shut_int Ybaf.underlying3 wt) (shut_int Ybaf.underlying3 wn)
  · rfl

theorem proved : Rows.LawS6515CWholeToldSaid :=
  Claim7.holds_of_told_any 3 Ybaf.f3 "fmt.errorf" [] [] _ _ _ (by kernel_rfl) rfl rfl rfl laidOut (by kernel_rfl) rfl ⟨rfl, rfl, rfl, rfl, rfl, rfl, rfl⟩ rfl rfl (by kernel_rfl) (by kernel_rfl) Ybaf.func3 (by kernel_rfl)
    (of_decide_eq_true (by kernel_rfl)) (by unfold Func.isWrapper; first | (rw [if_pos (by decide +kernel)]; kernel_rfl) | (rw [if_neg (by decide +kernel)]; exact ⟨rfl, rfl⟩)) stopsF.symm rfl stopKnobs.symm (by kernel_rfl)
    (by kernel_rfl) (by kernel_rfl) (by kernel_rfl) (by kernel_rfl) (by kernel_rfl) (by kernel_rfl) (by kernel_rfl) (by kernel_rfl) (by kernel_rfl) rfl (by kernel_rfl) rfl rfl
    rfl rfl
    rfl (by kernel_rfl) (by kernel_rfl) (by kernel_rfl) (by decide) (by kernel_rfl)
    (OpenClaim.moreEntering_of (by kernel_rfl) (by kernel_rfl) (by kernel_rfl) (by kernel_rfl) (by kernel_rfl) (by kernel_rfl) (by kernel_rfl) (by kernel_rfl) (by kernel_rfl) (by kernel_rfl))
    ⟨_, WideRow.started_initial, quietF _⟩
    (fun os started _ H enc _ => lifted os started H enc)
end Go.Proofs.YbulkedxcFmt
