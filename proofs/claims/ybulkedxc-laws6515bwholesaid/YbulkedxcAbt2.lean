/-
  LawS6515BWhole: aborted, walked.
-/
import Derived.Test.YbulkedxcMid
namespace Go.Proofs.Ybulkedxc
open Go.RowKit
attribute [local simp] setO_size setT_same
variable {A : Role → Nat} {B : Nat} {W : World}

theorem method_cascade (s : String) (hs : ((Yba.prog.info? 34).bind (fun i => i.methods[2]?)).map (·.name) = some s) (a : Addr) (w : World) : (method 315 34 (.pointer (some a)) s).run Yba.prog w = .ok (52, .pointer (some a)) w := by
  have h0 : (method 315 34 (.pointer (some a)) ((((Yba.prog.info? 34).bind (fun i => i.methods[2]?)).map (·.name)).getD "")).run Yba.prog w = .ok (52, .pointer (some a)) w := by kernel_rfl
  rw [hs] at h0
  exact h0

/-- a counter raised k times -/
def abN (x : Int) : Nat → Int
  | 0 => x
  | k + 1 => wrap64 (abN x k + 1)
/-- the numbers of the transactions that cascade, as the stand-in holds them -/
def CvAt (A : Role → Nat) (E : Env) (S : Sys) (W : World) (cl : List Nat) : Prop :=
  ∃ cva cap, E.cv = .slice cva cl.length cap ∧ ∀ (k i : Nat), cl[k]? = some i → ∃ cb, cva = some ⟨cb, 0, none⟩ ∧ cb < W.heap.size ∧ (∀ r, dom E S r → A r ≠ cb) ∧ W.cell? ⟨cb, k, none⟩ = some (.int .i64 ((i : Int) + 1))

theorem logs_len (E : Env) (l : List Nat) : (l.flatMap (logOf E)).length ≤ l.length := by
  induction l with
  | nil => simp
  | cons i r ih =>
    rw [List.flatMap_cons, List.length_append, List.length_cons]
    have : (logOf E i).length ≤ 1 := by unfold logOf; cases (E.sp i).wait && (E.sp i).park <;> simp
    omega

/-- the event's variable behind keptNotes -/
theorem ev_start (E : Env) (N : NoteD) (nIn : Value) (n : Nat) (w1 : World) (a : Option Addr) (c : Nat) (hK : KeptAt (W.alloc (.cells #[.int .i64 E.step, .int .u8 E.kind, .int .i64 E.txn, .string E.item, .string E.expr, .int .u8 E.dec, nIn] 129)) w1 N nIn (.slice a n c) n) :
    w1.cell? ⟨W.heap.size, 6, none⟩ = some nIn ∧ w1.frozen? ⟨W.heap.size, 6, none⟩ = false ∧ EvP E W (w1.setCell ⟨W.heap.size, 6, none⟩ (.slice a n c)) N nIn n a c := by
  have hb := hK.bel
  have hsz : W.heap.size < (W.alloc (.cells #[.int .i64 E.step, .int .u8 E.kind, .int .i64 E.txn, .string E.item, .string E.expr, .int .u8 E.dec, nIn] 129)).heap.size := by simp
  have cc : ∀ k, w1.cell? ⟨W.heap.size, k, none⟩ = (W.alloc (.cells #[.int .i64 E.step, .int .u8 E.kind, .int .i64 E.txn, .string E.item, .string E.expr, .int .u8 E.dec, nIn] 129)).cell? ⟨W.heap.size, k, none⟩ := fun k => hb.cell (p := ⟨W.heap.size, k, none⟩) hsz
  have h6 : w1.cell? ⟨W.heap.size, 6, none⟩ = some nIn := (cc 6).trans (by simp)
  have f6 : w1.frozen? ⟨W.heap.size, 6, none⟩ = false := (hb.frozen (p := ⟨W.heap.size, 6, none⟩) hsz).trans (by simp)
  have hs1 : W.heap.size < w1.heap.size := by have := hb.size; omega
  refine ⟨h6, f6, ?_⟩
  have oth : ∀ k, k ≠ 6 → (w1.setCell ⟨W.heap.size, 6, none⟩ (.slice a n c)).cell? ⟨W.heap.size, k, none⟩ = w1.cell? ⟨W.heap.size, k, none⟩ := fun k _ => World.cell?_setCell_other _ _ _ _ (by simp)
  obtain ⟨a', c', e, h1, h2, h3⟩ := hK.val
  simp only [Value.slice.injEq, true_and] at e
  obtain ⟨rfl, rfl⟩ := e
  have b0 : Below W.heap.size W (W.alloc (.cells #[.int .i64 E.step, .int .u8 E.kind, .int .i64 E.txn, .string E.item, .string E.expr, .int .u8 E.dec, nIn] 129)) := (Below.refl _ _).alloc (Nat.le_refl _) _
  have b1 : Below W.heap.size W w1 := b0.trans ⟨hb.os, hb.tape, hb.output, hb.size, fun k hk => hb.block k (by omega)⟩
  refine ⟨?_, by simpa using hs1, ((oth 0 (by omega)).trans (cc 0)).trans (by simp), ((oth 1 (by omega)).trans (cc 1)).trans (by simp), ((oth 2 (by omega)).trans (cc 2)).trans (by simp), ((oth 3 (by omega)).trans (cc 3)).trans (by simp), ((oth 4 (by omega)).trans (cc 4)).trans (by simp), ((oth 5 (by omega)).trans (cc 5)).trans (by simp), World.cell?_setCell_same _ _ _ h6, by simpa using f6, h1, h2, ?_⟩
  · exact ⟨b1.os, b1.tape, b1.output, by simpa using b1.size, fun k hk => (heap_setCell_ne _ (by omega)).trans (b1.block k hk)⟩
  · intro h0
    obtain ⟨g, g1, g2, g3, g4⟩ := h3 h0
    have hg : W.heap.size < g := by omega
    refine ⟨g, g1, hg, by simpa using g3, fun k hk => ⟨?_, by simpa using (g4 k hk).2⟩⟩
    rw [World.cell?_setCell_other _ _ _ _ (by intro e; have := congrArg Addr.block e; simp at this; omega)]
    exact (g4 k hk).1

set_option maxRecDepth 100000 in
set_option maxHeartbeats 3200000 in
theorem aborted_any (E : Env) (S : Sys) (N : NoteD) (nIn : Value) (n : Nat) (cl : List Nat) (hR : Rep A E S [] B W) (h0 : 0 < E.n) (he : ∀ j, S.en j = false) (ha : ∀ j, S.an j = false) (hkn : S.kn = fun _ => none) (hlv : S.lv = .slice none 0 0)
    (hkept : ∀ w, Below W.heap.size W w → Calls Yba.prog 15 #[nIn] w fun e w' => ∃ kv, e = .returned kv ∧ KeptAt w w' N nIn kv n) (ca : Option Addr) (cn cc : Nat) (hcyc : E.cyc = .slice ca cn cc)
    (hcl : ∀ i ∈ cl, 0 < i ∧ i < E.n) (hnd : cl.Nodup) (hlen : cl.length < 1048576) (hcv : CvAt A E S W cl) :
    Calls Yba.prog 10 #[ptr (A .st), ptr (A (.U 0)), .agg #[.int .i64 E.step, .int .u8 E.kind, .int .i64 E.txn, .string E.item, .string E.expr, .int .u8 E.dec, nIn], E.cyc] W fun e W' => e = .returned (.tuple #[]) ∧
      ∃ A1 A' S' lx' wc a c, Mid E S { S with nv := .slice a n c, kn := knOf N n } S' A A1 A' B wc W' (0 :: cl) lx' ∧ S'.cas = wrap64 (S.cas + 1) ∧ S'.ab = abN S.ab cl.length ∧ Chg A (dom E S) W.heap.size W W' ∧
        (n = 0 → ∃ c0, nIn = .slice a 0 c0) ∧ (0 < n → a = some ⟨A' .kn, 0, none⟩) := by
  rw [hcyc]
  have HK := hid hkept
  have HR := hid hR
  have dU : dom E S (.U 0) := h0
  clear hkept hR
  unfold ptr at *
  go_enter Yba.func10, Yba.ntmps10
  go_upto_region 2 with (go_at_call 15; refine (HK.out _ ((Below.refl _ _).alloc (Nat.le_refl _) _)).mono ?_; rintro e w1 ⟨kv, rfl, hK1⟩; obtain ⟨a, c, rfl, -, -, -⟩ := hK1.val; obtain ⟨h6, f6, hEv⟩ := ev_start E N nIn n w1 a c hK1; have HEv := hid hEv; clear hEv hK1)
  clear h6 f6
  generalize w1.setCell ⟨W.heap.size, 6, none⟩ (.slice a n c) = wx at HEv ⊢
  have HF := hid (HR.out.rep.below HEv.out.bel)
  have lU : A (.U 0) < wx.heap.size := (HF.out.dom _ dU).2
  have lS : A .st < wx.heap.size := (HF.out.dom .st trivial).2
  have c6 := (HF.out.cell (.U 0) 6 (.int .i32 0) (by simp [mem, uC, h0])).2.1
  have c7 := (HF.out.cell (.U 0) 7 (.int .i32 0) (by simp [mem, uC, h0])).2.1
  have s6 := (HF.out.cell .st 6 (.iface 37 (ptr (A .vs))) (by simp [mem, stC])).2.1
  unfold ptr at s6
  go_region_held3 (fun w' => w'.cell? ⟨A (.U 0), 6, none⟩ = some (.int .i32 0) ∧ w'.cell? ⟨A (.U 0), 7, none⟩ = some (.int .i32 0) ∧ w'.cell? ⟨A .st, 6, none⟩ = some (.iface 37 (.pointer (some ⟨A .vs, 0, none⟩))))
    (first
      | go_keep
      | exact ⟨(HB2.out.cell (p := ⟨A (.U 0), 6, none⟩) (by have := HB1.out.size; simp at this ⊢; omega)).trans ((HB1.out.cell (p := ⟨A (.U 0), 6, none⟩) lU).trans c6), (HB2.out.cell (p := ⟨A (.U 0), 7, none⟩) (by have := HB1.out.size; simp at this ⊢; omega)).trans ((HB1.out.cell (p := ⟨A (.U 0), 7, none⟩) lU).trans c7), (HB2.out.cell (p := ⟨A .st, 6, none⟩) (by have := HB1.out.size; simp at this ⊢; omega)).trans ((HB1.out.cell (p := ⟨A .st, 6, none⟩) lS).trans s6)⟩
      | exact ⟨(HB1.out.cell (p := ⟨A (.U 0), 6, none⟩) lU).trans c6, (HB1.out.cell (p := ⟨A (.U 0), 7, none⟩) lU).trans c7, (HB1.out.cell (p := ⟨A .st, 6, none⟩) lS).trans s6⟩)
    (first
      | (go_at_call 17; refine (writeKeys_any _ _).mono ?_; rintro e wa ⟨⟨fa, fb, rfl⟩, hB1⟩; have HB1 := hid hB1; clear hB1)
      | (go_at_call 16; refine (undo_zero _ _ fa fb _ _).mono ?_; rintro e wb ⟨rfl, hB2⟩; have HB2 := hid hB2; clear hB2))
  rename_i hHeld
  have HEv2 := hid (((HEv.out.later (Below.refl _ _).drew).later HB1.out).later HB2.out)
  clear hHeld c6 c7 s6 lU lS HB1 HB2 HF HEv
  have k1 := HEv2.out.e1
  go_upto_if 34 with fail
  go_cut [] (fun wy => ∃ c2, EvP E W wy N nIn n a c2)
  case first =>
    by_cases hk4 : E.kind = 4
    · have hkb : (E.kind == 4) = true := by simp [hk4]
      clear hk4
      have e6 := HEv2.out.e6
      have f6 := HEv2.out.f6
      have hcap := HEv2.out.cap
      go_upto_region 5 with (go_at_call 18; refine (clip_any a n c _ hcap).mono ?_; rintro e w' ⟨rfl, rfl⟩)
      have HEv3 := hid (HEv2.out.clip (c' := n) (Nat.le_refl _))
      clear e6 f6 HEv2 k1
      generalize World.setCell _ ⟨W.heap.size, 6, none⟩ (.slice a n n) = wy at HEv3 ⊢
      have HF := hid (HR.out.rep.below HEv3.out.bel)
      have lU : A (.U 0) < wy.heap.size := (HF.out.dom _ dU).2
      have lS : A .st < wy.heap.size := (HF.out.dom .st trivial).2
      have c6 := (HF.out.cell (.U 0) 6 (.int .i32 0) (by simp [mem, uC, h0])).2.1
      have c7 := (HF.out.cell (.U 0) 7 (.int .i32 0) (by simp [mem, uC, h0])).2.1
      have s6 := (HF.out.cell .st 6 (.iface 37 (ptr (A .vs))) (by simp [mem, stC])).2.1
      unfold ptr at s6
      go_region_held3 (fun w' => w'.cell? ⟨A (.U 0), 6, none⟩ = some (.int .i32 0) ∧ w'.cell? ⟨A (.U 0), 7, none⟩ = some (.int .i32 0) ∧ w'.cell? ⟨A .st, 6, none⟩ = some (.iface 37 (.pointer (some ⟨A .vs, 0, none⟩))))
        (first
          | go_keep
          | exact ⟨(HB2.out.cell (p := ⟨A (.U 0), 6, none⟩) (by have := HB1.out.size; simp at this ⊢; omega)).trans ((HB1.out.cell (p := ⟨A (.U 0), 6, none⟩) lU).trans c6), (HB2.out.cell (p := ⟨A (.U 0), 7, none⟩) (by have := HB1.out.size; simp at this ⊢; omega)).trans ((HB1.out.cell (p := ⟨A (.U 0), 7, none⟩) lU).trans c7), (HB2.out.cell (p := ⟨A .st, 6, none⟩) (by have := HB1.out.size; simp at this ⊢; omega)).trans ((HB1.out.cell (p := ⟨A .st, 6, none⟩) lS).trans s6)⟩
          | exact ⟨(HB1.out.cell (p := ⟨A (.U 0), 6, none⟩) lU).trans c6, (HB1.out.cell (p := ⟨A (.U 0), 7, none⟩) lU).trans c7, (HB1.out.cell (p := ⟨A .st, 6, none⟩) lS).trans s6⟩)
        (first
          | (go_at_call 17; refine (writeKeys_any _ _).mono ?_; rintro e wa ⟨⟨fa, fb, rfl⟩, hB1⟩; have HB1 := hid hB1; clear hB1)
          | (go_at_call 19; refine (given_zero _ _ fa fb _ _).mono ?_; rintro e wb ⟨rfl, hB2⟩; have HB2 := hid hB2; clear hB2))
      have HEv4 := hid (((HEv3.out.later (Below.refl _ _).drew).later HB1.out).later HB2.out)
      go_wp2_with fail
      refine wp_loop_rounds 1 ?_
      rw [rounds_succ]
      go_wp2
      go_meet
      exact ⟨n, HEv4.out⟩
    · have hkb : (E.kind == 4) = false := by simp [hk4]
      go_wp2
      go_meet
      exact ⟨c, HEv2.out⟩
  case rest =>
    obtain ⟨c2, hcut⟩ := hcut
    have HEv := hid hcut
    clear hcut HEv2 k1
    go_upto_region 10 with fail
    obtain ⟨A1, hA1, hK1, hF1⟩ := kn_state E S N nIn n a c2 wc he hkn HR.out HEv.out
    have hsz := HEv.out.lt
    have hbs := HR.out.base
    have hd1 : ∀ r, dom E S r → r ≠ .kn := by
      rintro r hr rfl
      obtain ⟨k, hk⟩ := hr
      rw [hkn] at hk
      exact hk rfl
    have M0 : Mid E S { S with nv := .slice a n c2, kn := knOf N n } { S with nv := .slice a n c2, kn := knOf N n } A A1 A1 B wc wc [] [] := by
      refine ⟨⟨hF1, by omega, ?_, ?_⟩, fun r hr => hA1 r (hd1 r hr), fun _ _ => rfl, fun r hr => Or.inl ⟨hr, rfl⟩, Chg.refl, ?_, ?_⟩
      · show wc.ownsRow B 3 1 S.lv 0 []
        rw [hlv]
        exact World.ownsRow_nil _ _ _ _
      · intro r _
        show S.lv.ownBlock ≠ _
        rw [hlv]
        simp [Value.ownBlock]
      · intro b hb
        have hb' : S.lv.ownBlock = some b := hb
        rw [hlv] at hb'
        simp [Value.ownBlock] at hb'
      · exact ⟨fun j => by simp [he], fun j => by simp [ha], rfl, rfl, fun _ => rfl, fun _ => rfl, rfl, rfl, rfl⟩
    have hab := M0.abort he he 0 h0 (by simp) (wc.alloc (.cells #[.int .i64 1, .int .i64 E.step, .int .u8 E.kind, .int .i64 E.txn, .string E.item, .string E.expr, .int .u8 E.dec, .slice a n c2, .slice ca cn cc] 139)).drew #[.int .i64 1, .int .i64 E.step, .int .u8 E.kind, .int .i64 E.txn, .string E.item, .string E.expr, .int .u8 E.dec, .slice a n c2, .slice ca cn cc]
      (by simp) (((Below.refl _ _).alloc (Nat.le_refl _) _).drew) (by simp) (heap_alloc_new wc _) (ae_cells0 E _ _ _ hcyc rfl)
    have heb : ∀ W4 : World, Chg A1 (dom E { S with nv := .slice a n c2, kn := knOf N n }) wc.heap.size wc W4 → ∀ k, W4.cell? ⟨W.heap.size, k, none⟩ = wc.cell? ⟨W.heap.size, k, none⟩ := by
      intro W4 hC k
      have hb := hC.block W.heap.size HEv.out.lt (by
        intro r hr e
        by_cases hrk : r = .kn
        · subst hrk
          obtain ⟨h1, h2⟩ := hK1 hr
          have hn : 0 < n := by
            obtain ⟨k, hk⟩ := hr
            rcases Nat.eq_zero_or_pos n with h | h
            · subst h; simp [knOf] at hk
            · exact h
          obtain ⟨g, h3, h4, _⟩ := HEv.out.kept hn
          rw [h3] at h2
          have h5 : g = A1 .kn := congrArg (fun x : Option Addr => (x.getD default).block) h2
          omega
        · rw [hA1 r hrk] at e
          have hd : dom E S r := by
            cases r using Role.split with
            | kn => exact absurd rfl hrk
            | _ => exact hr
          have := (HR.out.rep.dom r hd).2
          omega)
      simp [World.cell?, hb]
    obtain ⟨cva, cvc, hcvE, hcvC⟩ := hcv
    have hcvk : ∀ wr : World, Chg A1 (dom E { S with nv := .slice a n c2, kn := knOf N n }) wc.heap.size wc wr → ∀ (k i : Nat), cl[k]? = some i → ∃ cb, cva = some ⟨cb, 0, none⟩ ∧ wr.cell? ⟨cb, k, none⟩ = some (.int .i64 ((i : Int) + 1)) := by
      intro wr hC k i hki
      obtain ⟨cb, h1, h2, h3, h4⟩ := hcvC k i hki
      refine ⟨cb, h1, ?_⟩
      have hb := hC.block cb (by omega) (by
        intro r hr e
        by_cases hrk : r = .kn
        · subst hrk
          have := (hK1 hr).1
          omega
        · rw [hA1 r hrk] at e
          have hd : dom E S r := by
            cases r using Role.split with
            | kn => exact absurd rfl hrk
            | _ => exact hr
          exact h3 r hd e)
      have h5 := HEv.out.bel.block cb h2
      rw [← h4]
      simp [World.cell?, hb, h5]
    have HCV := hid hcvk
    clear hcvk hcvC
    have HAB := hid hab
    have HA1 := hid hA1
    have HK1 := hid hK1
    have HEB := hid heb
    have q1 := (M0.rep.rep.cell (.U 0) 1 (.int .i64 1) (by simp [mem, uC, h0])).2.1
    rw [hA1 _ (by simp)] at q1
    clear hab hA1 hK1 hF1 heb M0 hd1
    have e0 := HEv.out.e0
    have e1 := HEv.out.e1
    have e2 := HEv.out.e2
    have e3 := HEv.out.e3
    have e4 := HEv.out.e4
    have e5 := HEv.out.e5
    have e6 := HEv.out.e6
    unfold ptr at HAB
    go_region_held3 (fun w' => w'.cell? ⟨A (.U 0), 1, none⟩ = some (.int .i64 1) ∧ w'.cell? ⟨W.heap.size, 0, none⟩ = some (.int .i64 E.step) ∧ w'.cell? ⟨W.heap.size, 1, none⟩ = some (.int .u8 E.kind) ∧ w'.cell? ⟨W.heap.size, 2, none⟩ = some (.int .i64 E.txn) ∧ w'.cell? ⟨W.heap.size, 3, none⟩ = some (.string E.item) ∧ w'.cell? ⟨W.heap.size, 4, none⟩ = some (.string E.expr) ∧ w'.cell? ⟨W.heap.size, 5, none⟩ = some (.int .u8 E.dec) ∧ w'.cell? ⟨W.heap.size, 6, none⟩ = some (.slice a n c2))
      (first
        | exact ⟨hq1, (HEB.out _ HM.out.chg 0).trans e0, (HEB.out _ HM.out.chg 1).trans e1, (HEB.out _ HM.out.chg 2).trans e2, (HEB.out _ HM.out.chg 3).trans e3, (HEB.out _ HM.out.chg 4).trans e4, (HEB.out _ HM.out.chg 5).trans e5, (HEB.out _ HM.out.chg 6).trans e6⟩
        | go_keep)
      ((go_at_call 20; refine HAB.out.mono ?_; rintro e W4 ⟨rfl, A2, lv', hM⟩; have hq1 : W4.cell? ⟨A (.U 0), 1, none⟩ = some (.int .i64 1) := (by have := (hM.rep.rep.cell (.U 0) 1 (.int .i64 1) (by simp [mem, uC, h0])).2.1; rw [hM.agree (.U 0) h0] at this; exact this); have HM := hid hM; clear hM))
    rename_i hHeld
    clear hHeld e1 e2 e3 e4 e5 e6 q1 HAB hq1
    have HE0 := hid e0
    clear e0
    have s2 := (HM.out.rep.rep.cell .st 2 (.iface 34 (ptr (A2 .sch))) (by simp [mem, stC])).2.1
    rw [HM.out.agree .st trivial, HM.out.agree .sch trivial] at s2
    have ecas : (gone E { S with nv := .slice a n c2, kn := knOf N n } 0 lv').cas = S.cas := by unfold gone; cases (E.sp 0).wait <;> rfl
    have eab : (gone E { S with nv := .slice a n c2, kn := knOf N n } 0 lv').ab = S.ab := by unfold gone; cases (E.sp 0).wait <;> rfl
    have x0 := (HM.out.rep.rep.cell .sch 0 (.slice cva cl.length cvc) (by simp [mem, hcvE])).2.1
    have x1 := (HM.out.rep.rep.cell .sch 1 (.int .i64 S.cas) (by simp [mem, ecas])).2
    rw [HM.out.agree .sch trivial] at x0 x1
    have hM5 := HM.out.cas (wrap64 (S.cas + 1))
    rw [HM.out.agree .sch trivial] at hM5
    have HM5 := hid hM5
    clear hM5 HM
    unfold ptr at s2
    generalize hS5 : ({ gone E { S with nv := .slice a n c2, kn := knOf N n } 0 lv' with cas := wrap64 (S.cas + 1) } : Sys) = S5 at HM5
    have hcas5 : S5.cas = wrap64 (S.cas + 1) := by rw [← hS5]
    have hab5 : S5.ab = S.ab := by rw [← hS5]; exact eab
    clear hS5 ecas eab
    go_wp2_with (first | (rw [method_cascade]; rotate_left; kernel_rfl) | (go_at_call 52; refine (cascade_any _ _ _ _ x0 x1.1 x1.2).mono ?_; rintro e w' ⟨rfl, rfl⟩))
    clear x0 x1 s2
    go_loopw [83] (fun ix wr => ∃ (k : Nat) (A' : Role → Nat) (S' : Sys) (lx : List Int), k ≤ cl.length ∧ ix = .int .i64 k ∧ Mid E S { S with nv := .slice a n c2, kn := knOf N n } S' A A1 A' B wc wr (0 :: cl.take k) lx ∧ S'.cas = wrap64 (S.cas + 1) ∧ S'.ab = abN S.ab k) (fun ix _ => cl.length - (intOf ix).toNat)
    case atStart => exact ⟨0, A2, S5, _, Nat.zero_le _, rfl, HM5.out, hcas5, hab5⟩
    case round =>
      obtain ⟨k, A', S', lx, hk, rfl, hMk, hcask, habk⟩ := hrel
      have HMk := hid hMk
      have HX1 := hid hcask
      have HX2 := hid habk
      clear hMk HM5 hcas5 hab5 hcask habk
      by_cases hlt : k < cl.length
      · obtain ⟨i, hki⟩ : ∃ i, cl[k]? = some i := ⟨_, List.getElem?_eq_getElem hlt⟩
        have him := hcl i (List.mem_of_getElem? hki)
        have hnot : i ∉ 0 :: cl.take k := by
          intro hm
          rcases List.mem_cons.1 hm with h | h
          · omega
          · obtain ⟨j, hj⟩ := List.getElem?_of_mem h
            have hjk : j < k := by
              rcases Nat.lt_or_ge j k with h | h
              · exact h
              · rw [List.getElem?_eq_none (by rw [List.length_take]; omega)] at hj; cases hj
            rw [List.getElem?_take_of_lt hjk] at hj
            have := (List.getElem?_inj (by omega) hnd).1 (hj.trans hki.symm)
            omega
        obtain ⟨cb, hcb, ccell⟩ := HCV.out _ HMk.out.chg k i hki
        have hIi : (k : Int) < (cl.length : Int) := by omega
        have t120 := (HMk.out.rep.rep.cell .st 120 (.int .i64 S'.ab) (by simp [mem, stC])).2
        rw [HMk.out.agree .st trivial] at t120
        have hM1 := HMk.out.ab (wrap64 (S'.ab + 1))
        rw [HMk.out.agree .st trivial] at hM1
        have HM1 := hid hM1
        clear hM1 HMk
        obtain ⟨t120, ft120⟩ := t120
        subst hcb
        clear HCV hcvE
        have hen : S'.en i = false := by rw [HM1.out.did.en i]; simp [hnot]
        generalize hSa : ({ S' with ab := wrap64 (S'.ab + 1) } : Sys) = Sa at HM1
        have hena : Sa.en i = false := by rw [← hSa]; exact hen
        have HX3 : Hid (Sa.cas = wrap64 (S.cas + 1)) := by rw [← hSa]; exact HX1.out
        have HX4 : Hid (Sa.ab = abN S.ab (k + 1)) := by
          rw [← hSa]
          show wrap64 (S'.ab + 1) = wrap64 (abN S.ab k + 1)
          rw [HX2.out]
        clear hSa
        generalize hw1 : wr.setCell ⟨A .st, 120, none⟩ (.int .i64 (wrap64 (S'.ab + 1))) = wr1 at HM1
        obtain ⟨kk, hfind, -⟩ := live_part A' E Sa i him.2 hena (ended1 Sa i) rfl
        have hlook := run_lookup_hit (P := Yba.prog) wr1 (t := 41) (d := .int .i64) Yba.underlying41 Yba.underlying3 (HM1.out.rep.rep.obj .live _ rfl).2 (key := .int .i64 ((i : Int) + 1)) rfl hfind false
        simp only [Bool.false_eq_true, if_false] at hlook
        rw [HM1.out.agree .live trivial, HM1.out.agree (.U i) him.2] at hlook
        have t110 := (HM1.out.rep.rep.cell .st 110 (.map (some (A' .live))) (by simp [mem, stC])).2.1
        rw [HM1.out.agree .st trivial, HM1.out.agree .live trivial] at t110
        have c6 := (HM1.out.rep.rep.cell (.U i) 6 (.int .i32 0) (by simp [mem, uC, him.2])).2.1
        have c7 := (HM1.out.rep.rep.cell (.U i) 7 (.int .i32 0) (by simp [mem, uC, him.2])).2.1
        have s6 := (HM1.out.rep.rep.cell .st 6 (.iface 37 (ptr (A' .vs))) (by simp [mem, stC])).2.1
        rw [HM1.out.agree (.U i) him.2] at c6 c7
        rw [HM1.out.agree .st trivial, HM1.out.agree .vs trivial] at s6
        have lU : A (.U i) < wr1.heap.size := by have := (HM1.out.rep.rep.dom (.U i) him.2).2; rw [HM1.out.agree (.U i) him.2] at this; exact this
        have lS : A .st < wr1.heap.size := by have := (HM1.out.rep.rep.dom .st trivial).2; rw [HM1.out.agree .st trivial] at this; exact this
        unfold ptr at hlook s6
        go_upto_region 16 with fail
        clear hlook t110 ccell t120 ft120 hfind hw1
        go_region_held3 (fun w' => w'.cell? ⟨A (.U i), 6, none⟩ = some (.int .i32 0) ∧ w'.cell? ⟨A (.U i), 7, none⟩ = some (.int .i32 0) ∧ w'.cell? ⟨A .st, 6, none⟩ = some (.iface 37 (.pointer (some ⟨A .vs, 0, none⟩))))
          (first
            | go_keep
            | exact ⟨(HB2.out.cell (p := ⟨A (.U i), 6, none⟩) (by have := HB1.out.size; simp at this ⊢; omega)).trans ((HB1.out.cell (p := ⟨A (.U i), 6, none⟩) lU).trans c6), (HB2.out.cell (p := ⟨A (.U i), 7, none⟩) (by have := HB1.out.size; simp at this ⊢; omega)).trans ((HB1.out.cell (p := ⟨A (.U i), 7, none⟩) lU).trans c7), (HB2.out.cell (p := ⟨A .st, 6, none⟩) (by have := HB1.out.size; simp at this ⊢; omega)).trans ((HB1.out.cell (p := ⟨A .st, 6, none⟩) lS).trans s6)⟩
            | exact ⟨(HB1.out.cell (p := ⟨A (.U i), 6, none⟩) lU).trans c6, (HB1.out.cell (p := ⟨A (.U i), 7, none⟩) lU).trans c7, (HB1.out.cell (p := ⟨A .st, 6, none⟩) lS).trans s6⟩)
          (first
            | (go_at_call 17; refine (writeKeys_any _ _).mono ?_; rintro e wa ⟨⟨fa, fb, rfl⟩, hB1⟩; have HB1 := hid hB1; clear hB1)
            | (go_at_call 16; refine (undo_zero _ _ fa fb _ _).mono ?_; rintro e wb ⟨rfl, hB2⟩; have HB2 := hid hB2; clear hB2))
        rename_i hHeld3
        have HM3 := hid (((HM1.out.below (Below.refl _ _).drew).below HB1.out).below HB2.out)
        clear hHeld3 c6 c7 s6 lU lS HB1 HB2 HM1
        have st0 := (HEB.out _ HM3.out.chg 0).trans HE0.out
        have hlx : lx.length ≤ 1048576 := by
          rw [HM3.out.did.lx]
          have := logs_len E (0 :: cl.take k)
          have h2 : (0 :: cl.take k).length ≤ cl.length + 1 := by simp; omega
          omega
        have hab3 := HM3.out.abort he he i him.2 hnot (wb.alloc (.cells #[.int .i64 ((i : Int) + 1), .int .i64 E.step, .int .u8 4, .int .i64 ((i : Int) + 1), .string ⟨#[]⟩, .string ⟨#[]⟩, .int .u8 8, .slice none 0 0, .slice none 0 0] 139)) #[.int .i64 ((i : Int) + 1), .int .i64 E.step, .int .u8 4, .int .i64 ((i : Int) + 1), .string ⟨#[]⟩, .string ⟨#[]⟩, .int .u8 8, .slice none 0 0, .slice none 0 0]
          hlx ((Below.refl _ _).alloc (Nat.le_refl _) _) (by simp) (heap_alloc_new wb _) (ae_cells E _ i (by omega))
        have HAB3 := hid hab3
        clear hab3 HM3
        unfold ptr at HAB3
        go_wp2_with (go_at_call 20; refine HAB3.out.mono ?_; rintro e W6 ⟨rfl, A6, lv6, hM6⟩; have HM6 := hid hM6; clear hM6)
        go_roundw
        case rel =>
          have e1 : 0 :: cl.take (k + 1) = (0 :: cl.take k) ++ [i] := by
            rw [List.take_add_one, hki]
            simp
          have e2 : (gone E Sa i lv6).cas = Sa.cas := by unfold gone; cases (E.sp i).wait <;> rfl
          have e3 : (gone E Sa i lv6).ab = Sa.ab := by unfold gone; cases (E.sp i).wait <;> rfl
          exact ⟨k + 1, A6, gone E Sa i lv6, lx ++ logOf E i, by omega, by go_num, by rw [e1]; exact HM6.out, by rw [e2]; exact HX3.out, by rw [e3]; exact HX4.out⟩
        case measure => simp [intOf]; omega
      · have hkl : k = cl.length := by omega
        subst hkl
        go_wp2
        go_end0
        have htk : cl.take cl.length = cl := List.take_length
        rw [htk] at HMk
        refine ⟨rfl, A1, A', S', lx, wc, a, c2, HMk.out, HX1.out, HX2.out, ?_, HEv.out.nil, ?_⟩
        · have hC1 := HMk.out.chg
          have hB0 := HEv.out.bel
          refine ⟨hC1.os.trans hB0.os, hC1.output.trans hB0.output, Nat.le_trans hB0.size hC1.size, ?_⟩
          intro b hb hr
          refine (hC1.block b (by omega) ?_).trans (hB0.block b hb)
          intro r hd e
          by_cases hrk : r = .kn
          · subst hrk
            have := (HK1.out hd).1
            omega
          · rw [HA1.out r hrk] at e
            refine hr r ?_ e
            cases r using Role.split with
            | kn => exact absurd rfl hrk
            | _ => exact hd
        · intro hn
          have hd : dom E { S with nv := .slice a n c2, kn := knOf N n } .kn := ⟨0, by simp [knOf, hn]⟩
          rw [HMk.out.agree1 .kn hd]
          exact (HK1.out hd).2
end Go.Proofs.Ybulkedxc
