/-
  LawS6515BWhole: aborted, walked: the first part.
-/
import Derived.Test.YbulkedxcDid
namespace Go.Proofs.Ybulkedxc
open Go.RowKit
attribute [local simp] setO_size setT_same
set_option linter.unnecessarySimpa false
variable {A : Role → Nat} {B : Nat} {W : World}

/-- the notes kept join the roles -/
theorem add_kn (E : Env) (S : Sys) (g : Nat) (v : Value) (kf : Nat → Option Value) (he : ∀ j, S.en j = false) (hk : S.kn = fun _ => none) (hex : ∃ k, kf k ≠ none) (hF : RepF A (mem A E S) (obj A E S) (dom E S) B W) (hb : B ≤ g) (hlt : g < W.heap.size) (hfree : ∀ r, dom E S r → A r ≠ g)
    (hc : ∀ k u, kf k = some u → W.cell? ⟨g, k, none⟩ = some u ∧ W.frozen? ⟨g, k, none⟩ = false) :
    RepF (updA A .kn g) (mem (updA A .kn g) E { S with nv := v, kn := kf }) (obj (updA A .kn g) E { S with nv := v, kn := kf }) (dom E { S with nv := v, kn := kf }) B W := by
  have hnd : ¬ dom E S .kn := by simp [dom, hk]
  have h := hF.new hnd g hb hlt hfree kf none hc (by intro x hx; cases hx)
  have hd : dom E { S with nv := v, kn := kf } = fun r => dom E S r ∨ r = .kn := by
    funext r
    cases r using Role.split with
    | kn => simp [dom]; exact hex
    | _ => simp [dom]
  rw [hd]
  refine h.mono ?_ ?_
  · intro r k u hu
    cases r using Role.split with
    | kn => simpa [mem] using hu
    | Ae j => simp [mem, he] at hu
    | U j => simpa [mem, uC, updA, he] using hu
    | Wt j => simpa [mem, wC, updA, errOf] using hu
    | _ => simpa [mem, stC, updA] using hu
  · intro r x hx
    have eU : ∀ j, updA A .kn g (.U j) = A (.U j) := fun j => by simp [updA]
    have e1 : liveE (updA A .kn g) = liveE A := by funext j; simp only [liveE, eU]
    have e2 : waitE (updA A .kn g) E = waitE A E := by funext j; simp only [waitE, eU]
    cases r using Role.split with
    | live => simpa [obj, e1, liveL] using hx
    | wait => simpa [obj, e2, waitL] using hx
    | _ => simpa [obj] using hx
theorem set_nv (E : Env) (S : Sys) (v : Value) (he : ∀ j, S.en j = false) (hF : RepF A (mem A E S) (obj A E S) (dom E S) B W) : RepF A (mem A E { S with nv := v }) (obj A E { S with nv := v }) (dom E { S with nv := v }) B W := by
  refine hF.mono ?_ (fun _ _ h => h)
  intro r k u hu
  cases r using Role.split with
  | Ae j => simp [mem, he] at hu
  | _ => simpa [mem, stC, uC, wC] using hu

/-- what keptNotes hands back -/
structure KeptAt (w w' : World) (N : NoteD) (nIn kv : Value) (n : Nat) : Prop where
  bel : Below w.heap.size w w'
  val : ∃ a c, kv = .slice a n c ∧ n ≤ c ∧ (n = 0 → ∃ c0, nIn = .slice a 0 c0) ∧ (0 < n → ∃ g, a = some ⟨g, 0, none⟩ ∧ w.heap.size ≤ g ∧ g < w'.heap.size ∧ ∀ k, k < n → w'.cell? ⟨g, k, none⟩ = some (plainV N k) ∧ w'.frozen? ⟨g, k, none⟩ = false)
/-- the event's variable and its kept notes -/
structure EvP (E : Env) (W wx : World) (N : NoteD) (nIn : Value) (n : Nat) (a : Option Addr) (c : Nat) : Prop where
  bel : Below W.heap.size W wx
  lt : W.heap.size < wx.heap.size
  e0 : wx.cell? ⟨W.heap.size, 0, none⟩ = some (.int .i64 E.step)
  e1 : wx.cell? ⟨W.heap.size, 1, none⟩ = some (.int .u8 E.kind)
  e2 : wx.cell? ⟨W.heap.size, 2, none⟩ = some (.int .i64 E.txn)
  e3 : wx.cell? ⟨W.heap.size, 3, none⟩ = some (.string E.item)
  e4 : wx.cell? ⟨W.heap.size, 4, none⟩ = some (.string E.expr)
  e5 : wx.cell? ⟨W.heap.size, 5, none⟩ = some (.int .u8 E.dec)
  e6 : wx.cell? ⟨W.heap.size, 6, none⟩ = some (.slice a n c)
  f6 : wx.frozen? ⟨W.heap.size, 6, none⟩ = false
  cap : n ≤ c
  nil : n = 0 → ∃ c0, nIn = .slice a 0 c0
  kept : 0 < n → ∃ g, a = some ⟨g, 0, none⟩ ∧ W.heap.size < g ∧ g < wx.heap.size ∧ ∀ k, k < n → wx.cell? ⟨g, k, none⟩ = some (plainV N k) ∧ wx.frozen? ⟨g, k, none⟩ = false

theorem EvP.later {E : Env} {W wx wy : World} {N : NoteD} {nIn : Value} {n : Nat} {a : Option Addr} {c : Nat} (h : EvP E W wx N nIn n a c) (hb : Below wx.heap.size wx wy) : EvP E W wy N nIn n a c := by
  have hs := hb.size
  have hl := h.lt
  have cc : ∀ k, wy.cell? ⟨W.heap.size, k, none⟩ = wx.cell? ⟨W.heap.size, k, none⟩ := fun k => hb.cell (p := ⟨W.heap.size, k, none⟩) hl
  refine ⟨h.bel.trans ⟨hb.os, hb.tape, hb.output, hb.size, fun k hk => hb.block k (by omega)⟩, by omega, (cc 0).trans h.e0, (cc 1).trans h.e1, (cc 2).trans h.e2, (cc 3).trans h.e3, (cc 4).trans h.e4, (cc 5).trans h.e5, (cc 6).trans h.e6, (hb.frozen (p := ⟨W.heap.size, 6, none⟩) hl).trans h.f6, h.cap, h.nil, ?_⟩
  intro h0
  obtain ⟨g, h1, h2, h3, h4⟩ := h.kept h0
  exact ⟨g, h1, h2, by omega, fun k hk => ⟨(hb.cell (p := ⟨g, k, none⟩) h3).trans (h4 k hk).1, (hb.frozen (p := ⟨g, k, none⟩) h3).trans (h4 k hk).2⟩⟩
/-- the notes clipped -/
theorem EvP.clip {E : Env} {W wx : World} {N : NoteD} {nIn : Value} {n : Nat} {a : Option Addr} {c c' : Nat} (h : EvP E W wx N nIn n a c) (hc : n ≤ c') : EvP E W (wx.setCell ⟨W.heap.size, 6, none⟩ (.slice a n c')) N nIn n a c' := by
  have hl := h.lt
  have oth : ∀ k, k ≠ 6 → (wx.setCell ⟨W.heap.size, 6, none⟩ (.slice a n c')).cell? ⟨W.heap.size, k, none⟩ = wx.cell? ⟨W.heap.size, k, none⟩ := fun k _ => World.cell?_setCell_other _ _ _ _ (by simp)
  refine ⟨?_, by simpa using hl, (oth 0 (by omega)).trans h.e0, (oth 1 (by omega)).trans h.e1, (oth 2 (by omega)).trans h.e2, (oth 3 (by omega)).trans h.e3, (oth 4 (by omega)).trans h.e4, (oth 5 (by omega)).trans h.e5, World.cell?_setCell_same _ _ _ h.e6, by simpa using h.f6, hc, h.nil, ?_⟩
  · exact ⟨h.bel.os, h.bel.tape, h.bel.output, by simpa using h.bel.size, fun k hk => (heap_setCell_ne _ (by omega)).trans (h.bel.block k hk)⟩
  · intro h0
    obtain ⟨g, h1, h2, h3, h4⟩ := h.kept h0
    refine ⟨g, h1, h2, by simpa using h3, fun k hk => ⟨?_, by simpa using (h4 k hk).2⟩⟩
    rw [World.cell?_setCell_other _ _ _ _ (by intro e; have := congrArg Addr.block e; simp at this; omega)]
    exact (h4 k hk).1
/-- the notes' cells by number -/
def knOf (N : NoteD) (n k : Nat) : Option Value := if k < n then some (plainV N k) else none

/-- the notes kept, as a state -/
theorem kn_state (E : Env) (S : Sys) (N : NoteD) (nIn : Value) (n : Nat) (a : Option Addr) (c : Nat) (wx : World) (he : ∀ j, S.en j = false) (hk : S.kn = fun _ => none) (hR : Rep A E S [] B W) (hE : EvP E W wx N nIn n a c) :
    ∃ A1 : Role → Nat, (∀ r, r ≠ .kn → A1 r = A r) ∧ (dom E { S with nv := .slice a n c, kn := knOf N n } .kn → W.heap.size ≤ A1 .kn ∧ a = some ⟨A1 .kn, 0, none⟩) ∧
      RepF A1 (mem A1 E { S with nv := .slice a n c, kn := knOf N n }) (obj A1 E { S with nv := .slice a n c, kn := knOf N n }) (dom E { S with nv := .slice a n c, kn := knOf N n }) B wx := by
  have hF := hR.rep.below hE.bel
  rcases Nat.eq_zero_or_pos n with h0 | h0
  · subst h0
    have e : knOf N 0 = S.kn := by rw [hk]; funext k; simp [knOf]
    refine ⟨A, fun _ _ => rfl, ?_, ?_⟩
    · rintro ⟨k, hk'⟩
      simp [knOf] at hk'
    · have := set_nv E S (.slice a 0 c) he hF
      rw [e]
      exact this
  · obtain ⟨g, h1, h2, h3, h4⟩ := hE.kept h0
    refine ⟨updA A .kn g, fun r hr => updA_ne A g hr, ?_, ?_⟩
    · intro _
      rw [updA_same]
      exact ⟨by omega, h1⟩
    · refine add_kn E S g (.slice a n c) (knOf N n) he hk ⟨0, by simp [knOf, h0]⟩ hF (by have := hR.base; omega) h3 ?_ ?_
      · intro r hr e
        have := (hR.rep.dom r hr).2
        omega
      · intro k u hu
        unfold knOf at hu
        split at hu
        · rename_i hkn
          simp only [Option.some.injEq] at hu
          subst hu
          exact h4 k hkn
        · cases hu
theorem ae_cells0 (E : Env) (S : Sys) (x y : Value) (hc : E.cyc = y) (hv : S.nv = x) : ∀ k v, aC E S 0 k = some v → (#[.int .i64 1, .int .i64 E.step, .int .u8 E.kind, .int .i64 E.txn, .string E.item, .string E.expr, .int .u8 E.dec, x, y] : Array Value)[k]? = some v
  | 0, _, h => by simpa [aC, hc, hv] using h
  | 1, _, h => by simpa [aC, hc, hv] using h
  | 2, _, h => by simpa [aC, hc, hv] using h
  | 3, _, h => by simpa [aC, hc, hv] using h
  | 4, _, h => by simpa [aC, hc, hv] using h
  | 5, _, h => by simpa [aC, hc, hv] using h
  | 6, _, h => by simpa [aC, hc, hv] using h
  | 7, _, h => by simpa [aC, hc, hv] using h
  | 8, _, h => by simpa [aC, hc, hv] using h
  | k + 9, _, h => by simp [aC] at h
theorem ae_cells (E : Env) (S : Sys) (i : Nat) (hi : i ≠ 0) : ∀ k v, aC E S i k = some v → (#[.int .i64 ((i : Int) + 1), .int .i64 E.step, .int .u8 4, .int .i64 ((i : Int) + 1), .string ⟨#[]⟩, .string ⟨#[]⟩, .int .u8 8, .slice none 0 0, .slice none 0 0] : Array Value)[k]? = some v
  | 0, _, h => by simpa [aC, hi] using h
  | 1, _, h => by simpa [aC, hi] using h
  | 2, _, h => by simpa [aC, hi] using h
  | 3, _, h => by simpa [aC, hi] using h
  | 4, _, h => by simpa [aC, hi] using h
  | 5, _, h => by simpa [aC, hi] using h
  | 6, _, h => by simpa [aC, hi] using h
  | 7, _, h => by simpa [aC, hi] using h
  | 8, _, h => by simpa [aC, hi] using h
  | k + 9, _, h => by simp [aC] at h

theorem set_ab (E : Env) (S : Sys) (x : Int) (h : RepF A (mem A E S) (obj A E S) (dom E S) B W) : RepF A (mem A E { S with ab := x }) (obj A E { S with ab := x }) (dom E { S with ab := x }) B (W.setCell ⟨A .st, 120, none⟩ (.int .i64 x)) := by
  refine (h.setCell (r0 := .st) (k0 := 120) (old := .int .i64 S.ab) (by simp [mem, stC]) rfl (.int .i64 x)).mono ?_ (fun _ _ h => h)
  intro r k u hu
  cases r using Role.split with
  | st =>
    by_cases hk : k = 120
    · subst hk; simpa [updm, mem, stC] using hu
    · have e : mem A E { S with ab := x } .st k = mem A E S .st k := by simp [mem, stC, hk]
      rw [e] at hu
      simpa [updm, hk] using hu
  | _ => simpa [updm, mem, uC, wC, aC] using hu
theorem set_cas (E : Env) (S : Sys) (x : Int) (h : RepF A (mem A E S) (obj A E S) (dom E S) B W) : RepF A (mem A E { S with cas := x }) (obj A E { S with cas := x }) (dom E { S with cas := x }) B (W.setCell ⟨A .sch, 1, none⟩ (.int .i64 x)) := by
  refine (h.setCell (r0 := .sch) (k0 := 1) (old := .int .i64 S.cas) (by simp [mem]) rfl (.int .i64 x)).mono ?_ (fun _ _ h => h)
  intro r k u hu
  cases r using Role.split with
  | sch =>
    by_cases hk : k = 1
    · subst hk; simpa [updm, mem] using hu
    · simpa [updm, mem, hk] using hu
  | _ => simpa [updm, mem, stC, uC, wC, aC] using hu

/-- abortEnd with an AbortError that was just made -/
theorem abort_call (E : Env) (S : Sys) (lx : List Int) (i H : Nat) (W2 : World) (cs : Array Value) (hF : RepF A (mem A E S) (obj A E S) (dom E S) B W) (hbase : B ≤ W.heap.size) (hown : W.ownsRow B 3 1 S.lv lx.length (lx.map (Value.int .i64)))
    (hap : ∀ r, dom E S r → S.lv.ownBlock ≠ some (A r)) (hlog : ∀ b, S.lv.ownBlock = some b → H ≤ b) (hi : i < E.n) (he : S.en i = false) (ha : S.an i = false) (hlx : lx.length ≤ 1048576) (hH : H ≤ W.heap.size)
    (hb2 : Below W.heap.size W W2) (hlt2 : W.heap.size < W2.heap.size) (hae : W2.heap[W.heap.size]? = some (.cells cs 139 (0, 0))) (hcs : ∀ k v, aC E S i k = some v → cs[k]? = some v) :
    Calls Yba.prog 20 #[ptr (A .st), ptr (A (.U i)), ptr W.heap.size] W2 fun e W' => e = .returned (.tuple #[]) ∧ ∃ A' lv', (∀ r, r ≠ .Ae i → A' r = A r) ∧ A' (.Ae i) = W.heap.size ∧
      Rep A' E (gone E S i lv') (lx ++ logOf E i) B W' ∧ Chg A (dom E S) H W W' ∧ (∀ b, (gone E S i lv').lv.ownBlock = some b → H ≤ b) := by
  have hlt : ∀ b, S.lv.ownBlock = some b → b < W.heap.size := by
    intro b hb
    rcases hown.2 with ⟨h1, _⟩ | ⟨g, cap, cur, h1, _, h2, _⟩
    · rw [h1] at hb; simp [Value.ownBlock] at hb
    · rw [h1] at hb
      simp [Value.ownBlock] at hb
      subst hb
      exact (Array.getElem?_eq_some_iff.1 h2).1
  have hF2 := hF.below hb2
  have hP := add_ae E S i W.heap.size hi he ha hF2 hbase hlt2 (fun r hr e => by have := (hF.dom r hr).2; omega) (by
    intro k v hv
    exact ⟨by simp [World.cell?, hae, hcs k v hv], by simp [World.frozen?, hae]⟩)
  have h := abortEnd_any (A := updA A (.Ae i) W.heap.size) (B := B) (W := W2) E S lx i H hi he ha (by omega) hlx hP (by omega) (ownsRow_keep hown (fun b hb => hb2.block b (hlt b hb))) (by
    intro r hr
    rw [dom_ended1 E S i hi] at hr
    rcases hr with hr | rfl
    · rw [updA_ne A _ (by rintro rfl; simp [dom, he] at hr)]
      exact hap r hr
    · rw [updA_same]
      intro e
      have := hlt _ e
      omega) hlog
  rw [updA_ne A _ (by simp), updA_ne A _ (by simp), updA_same] at h
  refine h.mono ?_
  rintro e W' ⟨rfl, lv', h1, h2, h3⟩
  refine ⟨rfl, updA A (.Ae i) W.heap.size, lv', fun r hr => updA_ne A _ hr, updA_same _ _ _, h1, ?_, h3⟩
  refine (Chg.of_below hb2 hH).trans h2 ?_
  intro r hr
  rw [dom_ended1 E S i hi] at hr
  rcases hr with hr | rfl
  · exact Or.inl ⟨hr, updA_ne A _ (by rintro rfl; simp [dom, he] at hr)⟩
  · rw [updA_same]; exact Or.inr hH
end Go.Proofs.Ybulkedxc
