/-
  sortSuffixes: what it is given, what it leaves, and the memory behind its recursive call. Not trusted: the kernel checks it.
-/
import Derived.Test.Qxb6606288aWalkF
namespace Go.Proofs.Qxb6606288a
open Go.RowKit Go.Deep
set_option linter.unusedVariables false

theorem row_cell {w : World} {b t n : Nat} {f : Nat → Value} (h : w.rowIs b t n f) {i : Nat} {v : Value} (hv : w.cell? ⟨b, i, none⟩ = some v) : i < n ∧ f i = v := by
  obtain ⟨c, hb, hn, hc⟩ := h
  simp [World.cell?, hb] at hv
  have hi : i < n := by
    have := (Array.getElem?_eq_some_iff.1 hv).1
    omega
  have := hc i hi
  rw [hv] at this
  exact ⟨hi, (Option.some.inj this).symm⟩
theorem row_same {w : World} {b t n n' : Nat} {f f' : Nat → Value} (h : w.rowIs b t n f) (h' : w.rowIs b t n' f') : n = n' ∧ ∀ i, i < n → f i = f' i := by
  obtain ⟨c, hb, hn, hc⟩ := h
  obtain ⟨c', hb', hn', hc'⟩ := h'
  rw [hb] at hb'
  injection hb' with e
  injection e with e1
  subst e1
  refine ⟨by omega, fun i hi => ?_⟩
  have h1 := hc i hi
  rw [hc' i (by omega)] at h1
  exact (Option.some.inj h1).symm

/-- what a call of sortSuffixes is given -/
structure SP (s : List Nat) (ga oa N gs os pl po : Nat) (f : Nat → Value) (Aold : Nat → Int) (sym : Nat → Value) (la : Option Addr) (lc : Nat) (w : World) : Prop where
  row : w.rowIs ga 21 N f
  win : ∀ i, i < s.length → f (oa + i) = .int .i32 (Aold i)
  fit : oa + s.length ≤ N
  sy : ∀ i, i < s.length → w.cell? ⟨gs, os + i, none⟩ = some (sym i)
  gsl : gs < w.heap.size
  dis : gs = ga → oa + s.length ≤ os
  pc : w.cell? ⟨pl, po, none⟩ = some (.slice la 0 lc)
  pf : w.frozen? ⟨pl, po, none⟩ = false
  lv : LVp w la lc
  la1 : ∀ b o, lu la lc = some ⟨b, o, none⟩ → b < w.heap.size ∧ b ≠ ga ∧ b ≠ pl ∧ b ≠ gs
  la2 : ∀ a, la = some a → a.spot = none
  la3 : la = none → lc = 0
  pl1 : pl < w.heap.size
  pl2 : pl ≠ ga
  pl3 : pl ≠ gs

/-- what it leaves of the levels -/
structure LQ (n ga pl po : Nat) (la : Option Addr) (lc : Nat) (w w' : World) : Prop where
  cell : ∃ la' d lc', w'.cell? ⟨pl, po, none⟩ = some (.slice la' d lc') ∧ 1 ≤ d ∧ d ≤ n ∧ LVr w' la' d lc'
  fz : w'.frozen? ⟨pl, po, none⟩ = false
  oth : ∀ y, y ≠ po → w'.cell? ⟨pl, y, none⟩ = w.cell? ⟨pl, y, none⟩
  old : ∀ b o, lu la lc = some ⟨b, o, none⟩ → ∀ NL F, w.rowIs b 50 NL F → (∀ y, y < NL → (F y).oneCell' = true) → ∃ F', w'.rowIs b 50 NL F' ∧ (∀ y, y < NL → (F' y).oneCell' = true) ∧ ∀ y, y < o → F' y = F y
  tc : Touch (fun b => b = ga ∨ b = pl ∨ ∃ o, lu la lc = some ⟨b, o, none⟩) w w'

def SPost (s : List Nat) (ga oa N pl po : Nat) (f : Nat → Value) (la : Option Addr) (lc : Nat) (w : World) (e : Ending) (w' : World) : Prop :=
  e = .returned (.tuple #[]) ∧ ∃ (SA : List Nat) (f' : Nat → Value), Sais.IsSA s SA ∧ w'.rowIs ga 21 N f' ∧ (∀ i, i < s.length → f' (oa + i) = .int .i32 (SA.getD i 0 : Nat)) ∧ (∀ y, (y < oa ∨ oa + s.length ≤ y) → f' y = f y) ∧ LQ s.length ga pl po la lc w w'

def SortSpec (s : List Nat) : Prop := ∀ (ga oa N gs os cs ca k pl po : Nat) (f : Nat → Value) (Aold : Nat → Int) (la : Option Addr) (lc : Nat) (w : World), 2 ≤ s.length → s.length ≤ 100000 → k ≤ 100000 → 0 < k → (∀ i, i < s.length → Sais.c s i < k) →
  s.length ≤ cs → os + cs ≤ 2 ^ 62 → s.length ≤ ca → oa + ca ≤ 2 ^ 62 → SP s ga oa N gs os pl po f Aold (fun i => .int .i32 (Sais.c s i : Nat)) la lc w →
  Calls Try.prog 23 #[.slice (some ⟨gs, os, none⟩) s.length cs, .slice (some ⟨ga, oa, none⟩) s.length ca, .int .i64 k, .pointer (some ⟨pl, po, none⟩)] w (SPost s ga oa N pl po f la lc w)

/-- the levels while the function runs: as laid before the sort -/
structure GB (x : Cx) (pl po l0 lc' NL bx : Nat) (F1 : Nat → Value) (la2 : Option Addr) (w B : World) : Prop where
  pc : B.cell? ⟨pl, po, none⟩ = some (.slice (some ⟨x.lb, l0, none⟩) 1 lc')
  pf : B.frozen? ⟨pl, po, none⟩ = false
  bc : B.rowIs bx 26 1 (fun _ => .slice la2 0 (lc' - 1))
  lr : B.rowIs x.lb 50 NL F1
  one : ∀ y, y < NL → (F1 y).oneCell' = true
  nl : l0 + 3 * lc' = NL
  lc1 : 1 ≤ lc'
  lcm : lc' ≤ maxLen
  lae : la2 = if lc' = 1 then some ⟨x.lb, l0, none⟩ else some ⟨x.lb, l0 + 3, none⟩
  lo : x.lo = l0 + 1
  p1 : pl ≠ x.ga
  p2 : pl ≠ x.gs
  p3 : pl ≠ x.gm
  p4 : pl ≠ x.gt
  p5 : pl ≠ x.gc
  p6 : pl ≠ x.lb
  p7 : pl ≠ bx
  p8 : pl < B.heap.size
  b1 : bx ≠ x.ga
  b2 : bx ≠ x.gs
  b3 : bx ≠ x.gm
  b4 : bx ≠ x.gt
  b5 : bx ≠ x.gc
  b6 : bx ≠ x.lb
  l1 : x.lb ≠ x.gs
  l2 : x.lb ≠ x.gm
  l3 : x.lb ≠ x.gc
  gs : x.gs < B.heap.size
  nb : w.heap.size ≤ bx
  nt : w.heap.size ≤ x.gt
  oth : ∀ y, y ≠ po → B.cell? ⟨pl, y, none⟩ = w.cell? ⟨pl, y, none⟩
  tc : Touch (fun b => b = x.ga ∨ b = pl ∨ b = x.lb) w B

/-- the levels while the function runs: before and behind the recursive call -/
structure GQ (n : Nat) (x : Cx) (pl po l0 NL : Nat) (F1 : Nat → Value) (w B : World) : Prop where
  cell : ∃ la' d lc', B.cell? ⟨pl, po, none⟩ = some (.slice la' d lc') ∧ 1 ≤ d ∧ d ≤ n ∧ LVr B la' d lc' ∧ ∀ b o, la' = some ⟨b, o, none⟩ → b ≠ x.ga ∧ b ≠ x.gt
  fz : B.frozen? ⟨pl, po, none⟩ = false
  pl1 : pl < B.heap.size
  oth : ∀ y, y ≠ po → B.cell? ⟨pl, y, none⟩ = w.cell? ⟨pl, y, none⟩
  row : ∃ F3, B.rowIs x.lb 50 NL F3 ∧ (∀ y, y < NL → (F3 y).oneCell' = true) ∧ ∀ y, y < l0 → F3 y = F1 y
  tc : Touch (fun b => b = x.ga ∨ b = pl ∨ b = x.lb) w B

section
variable {s : List Nat} {x : Cx} {f0 sym : Nat → Value} {pl po l0 lc' NL bx : Nat} {F1 : Nat → Value} {la2 : Option Addr} {w B : World}
theorem GB.gq (h : GB x pl po l0 lc' NL bx F1 la2 w B) (ho : x.ok s.length) {n : Nat} (hn : 1 ≤ n) : GQ n x pl po l0 NL F1 w B :=
  ⟨⟨_, 1, lc', h.pc, Nat.le_refl _, hn, ⟨h.lc1, h.lcm, x.lb, l0, NL, F1, rfl, h.lr, h.nl, h.one⟩, fun b o e => by
    have e1 := congrArg Addr.block (Option.some.inj e)
    have e2 : x.lb = b := e1
    subst e2
    exact ⟨ho.d4.symm, ho.d7.symm⟩⟩, h.pf, h.p8, h.oth, ⟨F1, h.lr, h.one, fun _ _ => rfl⟩, h.tc⟩
theorem GQ.drew {n : Nat} (h : GQ n x pl po l0 NL F1 w B) : GQ n x pl po l0 NL F1 w B.drew := ⟨h.cell, h.fz, h.pl1, h.oth, h.row, h.tc.drew⟩

variable {A0 : Nat → Int} {T0 : Nat → Nat} {w0 : World} {cs ca n m r so cso : Nat}
/-- the recursive call is given what it wants -/
theorem rec_pre (h : GB x pl po l0 lc' NL bx F1 la2 w B) (hc : TC s x cs ca n) (ht : TM s x n m r so cso) (hm : 0 < m) (hW : IW s x f0 sym B A0 T0 w0) (hA : ∀ t, t < m → A0 (r + t) = (Sais.c (Sais.red s) t : Nat)) :
    SP (Sais.red s) x.ga x.oa x.N x.ga so bx 0 (fun y => if x.oa ≤ y ∧ y < x.oa + s.length then .int .i32 (A0 (y - x.oa)) else f0 y) A0 (fun i => .int .i32 (Sais.c (Sais.red s) i : Nat)) la2 (lc' - 1) w0 := by
  have hl : (Sais.red s).length = m := by rw [Sais.red_len, ht.hmm]
  have hnn := hc.hnn
  have hr := ht.hr
  have h2 := Sais.P1_half (s := s)
  rw [ht.hmm, hnn] at h2
  have hfit := hc.ho.fit
  have hso := ht.hso hm
  have hbx : w0.rowIs bx 26 1 (fun _ => .slice la2 0 (lc' - 1)) := hW.tc.row h.bc (by rintro (e | e); exact h.b1 e; exact h.b4 e)
  have hlb : w0.rowIs x.lb 50 NL F1 := hW.tc.row h.lr (by rintro (e | e); exact hc.ho.d4 e.symm; exact hc.ho.d7 e.symm)
  refine ⟨hW.sa, fun i hi => ?_, by rw [hl]; omega, fun i hi => ?_, hW.sa.lt, fun _ => by rw [hl]; omega, hbx.cell (by omega), hbx.frozen 0, ?_, ?_, ?_, ?_, hbx.lt, h.b1, h.b1⟩
  · rw [hl] at hi
    show (if x.oa ≤ x.oa + i ∧ x.oa + i < x.oa + s.length then Value.int .i32 (A0 (x.oa + i - x.oa)) else f0 (x.oa + i)) = _
    rw [if_pos ⟨by omega, by omega⟩, Nat.add_sub_cancel_left]
  · rw [hl] at hi
    rw [hW.cellO hc.ho (o := so + i) (r + i) (by omega) (by omega), hA i hi]
  · by_cases e : lc' = 1
    · exact .inl (by omega)
    · refine .inr ⟨x.lb, l0 + 3, NL, F1, by rw [h.lae, if_neg e], hlb, ?_, ?_, h.one⟩
      · have := h.nl; have := h.lc1; omega
      · have := h.lcm; omega
  · intro b o e
    unfold lu at e
    by_cases e1 : lc' - 1 = 0
    · rw [if_pos e1] at e; cases e
    · rw [if_neg e1, h.lae, if_neg (by omega)] at e
      have e2 : x.lb = b := congrArg Addr.block (Option.some.inj e)
      subst e2
      exact ⟨hlb.lt, hc.ho.d4.symm, h.b6.symm, hc.ho.d4.symm⟩
  · intro a e
    rw [h.lae] at e
    by_cases e1 : lc' = 1
    · rw [if_pos e1] at e; rw [← Option.some.inj e]
    · rw [if_neg e1] at e; rw [← Option.some.inj e]
  · intro e
    rw [h.lae] at e
    by_cases e1 : lc' = 1
    · rw [if_pos e1] at e; cases e
    · rw [if_neg e1] at e; cases e

theorem rec_touch (h : GB x pl po l0 lc' NL bx F1 la2 w B) {w7 : World} (hL : LQ m x.ga bx 0 la2 (lc' - 1) w0 w7) : Touch (fun b => b = x.ga ∨ b = bx ∨ b = x.lb) w0 w7 := by
  refine hL.tc.mono (fun b _ e => ?_)
  rcases e with e | e | ⟨o, e⟩
  · exact .inl e
  · exact .inr (.inl e)
  · right; right
    unfold lu at e
    by_cases e1 : lc' - 1 = 0
    · rw [if_pos e1] at e; cases e
    · rw [if_neg e1, h.lae, if_neg (by omega)] at e
      exact (congrArg Addr.block (Option.some.inj e)).symm
theorem rec_row (h : GB x pl po l0 lc' NL bx F1 la2 w B) (hc : TC s x cs ca n) (hW : IW s x f0 sym B A0 T0 w0) {w7 : World} (hL : LQ m x.ga bx 0 la2 (lc' - 1) w0 w7) :
    ∃ F2, w7.rowIs x.lb 50 NL F2 ∧ (∀ y, y < NL → (F2 y).oneCell' = true) ∧ ∀ y, y < l0 + 3 → F2 y = F1 y := by
  have hlb : w0.rowIs x.lb 50 NL F1 := hW.tc.row h.lr (by rintro (e | e); exact hc.ho.d4 e.symm; exact hc.ho.d7 e.symm)
  by_cases e1 : lc' - 1 = 0
  · refine ⟨F1, hL.tc.row hlb ?_, h.one, fun _ _ => rfl⟩
    rintro (e | e | ⟨o, e⟩)
    · exact hc.ho.d4 e.symm
    · exact h.b6 e.symm
    · unfold lu at e; rw [if_pos e1] at e; cases e
  · exact hL.old x.lb (l0 + 3) (by unfold lu; rw [if_neg e1, h.lae, if_neg (by omega)]) NL F1 hlb h.one

theorem rec_after (h : GB x pl po l0 lc' NL bx F1 la2 w B) (hc : TC s x cs ca n) (ht : TM s x n m r so cso) (hW : IW s x f0 sym B A0 T0 w0) {w7 : World} (hL : LQ m x.ga bx 0 la2 (lc' - 1) w0 w7)
    {O : List Nat} {f' : Nat → Value} (hrow : w7.rowIs x.ga 21 x.N f') (hin : ∀ i, i < m → f' (x.oa + i) = .int .i32 (O.getD i 0 : Nat)) (hout : ∀ y, (y < x.oa ∨ x.oa + m ≤ y) → f' y = (if x.oa ≤ y ∧ y < x.oa + s.length then .int .i32 (A0 (y - x.oa)) else f0 y))
    {F2 : Nat → Value} (hF2 : w7.rowIs x.lb 50 NL F2) (hF2e : ∀ y, y < l0 + 3 → F2 y = F1 y) {d : Nat} (hd1 : 1 ≤ d) (hdm : d ≤ m) {lb' l' c' : Nat} {F3 : Nat → Value} {w8 : World}
    (j1 : LVr w8 (some ⟨lb', l', none⟩) (1 + d) c') (j2 : w8.rowIs x.lb 50 NL F3) (j3 : ∀ y, y < NL → (F3 y).oneCell' = true) (j4 : ∀ y, y < l0 + 3 → F3 y = F2 y) (j5 : Touch (· = x.lb) w7.drew w8) (j6 : (lb' = x.lb ∧ l' = l0) ∨ w7.drew.heap.size ≤ lb') :
    Hid (IW s x f0 sym (w8.setCell ⟨pl, po, none⟩ (.slice (some ⟨lb', l', none⟩) (1 + d) c')) (fun y => if y < m then (O.getD y 0 : Nat) else A0 y) T0 (w8.setCell ⟨pl, po, none⟩ (.slice (some ⟨lb', l', none⟩) (1 + d) c'))) ∧
    Hid (GQ n x pl po l0 NL F1 w (w8.setCell ⟨pl, po, none⟩ (.slice (some ⟨lb', l', none⟩) (1 + d) c'))) := by
  have ho := hc.ho
  have hnn := hc.hnn
  have hr := ht.hr
  have h2 := Sais.P1_half (s := s)
  rw [ht.hmm, hnn] at h2
  have hfit := ho.fit
  have T7 := rec_touch h hL
  have T8 : Touch (fun b => b = x.ga ∨ b = bx ∨ b = x.lb ∨ b = pl) w0 w8 := (((T7.mono (fun b _ e => by rcases e with e | e | e <;> simp [e])).drew).trans (j5.mono (fun b _ e => .inr (.inr (.inl e)))))
  have hsz8 : w0.heap.size ≤ w8.heap.size := T8.size
  have hplw0 : pl < w0.heap.size := Nat.lt_of_lt_of_le h.p8 hW.tc.size
  obtain ⟨V, hV⟩ : ∃ V, Value.slice (some ⟨lb', l', none⟩) (1 + d) c' = V := ⟨_, rfl⟩
  rw [hV]
  have T9 : Touch (fun b => b = x.ga ∨ b = bx ∨ b = x.lb ∨ b = pl) w0 (w8.setCell ⟨pl, po, none⟩ V) := T8.setCell (fun _ => .inr (.inr (.inr rfl))) V
  have hga8 : w8.rowIs x.ga 21 x.N f' := j5.row (w := w7.drew) hrow.drew ho.d4
  have hlb0 : w0.rowIs x.lb 50 NL F1 := hW.tc.row h.lr (by rintro (e | e); exact ho.d4 e.symm; exact ho.d7 e.symm)
  refine ⟨⟨?_, ?_, ?_, ?_, ?_, ?_, ?_, Touch.refl _ _⟩, ⟨?_, ?_, ?_, ?_, ?_, ?_⟩⟩
  · refine (hga8.setOther (by simpa using h.p1.symm) _).congr (fun y hy => ?_)
    by_cases e : x.oa ≤ y ∧ y < x.oa + s.length
    · rw [if_pos e]
      by_cases e2 : y < x.oa + m
      · rw [if_pos (by omega), show y = x.oa + (y - x.oa) by omega, hin _ (by omega), show x.oa + (y - x.oa) - x.oa = y - x.oa by omega]
      · rw [if_neg (by omega), hout y (.inr (by omega)), if_pos e]
    · rw [if_neg e, hout y (by omega), if_neg e]
  · intro i hi
    by_cases e : x.gs = x.ga
    · have h9 := ho.d9 e
      have hs := hW.sy i hi
      rw [e] at hs ⊢
      obtain ⟨q1, q2⟩ := row_cell hW.sa hs
      rw [(hga8.setOther (a := ⟨pl, po, none⟩) (by simpa using h.p1.symm) V).cell q1, hout _ (.inr (by omega)), q2]
    · rw [← hW.sy i hi]
      exact World.cell?_of_block (w := w0) (a := ⟨x.gs, x.os + i, none⟩) (T9.block x.gs (Nat.lt_of_lt_of_le h.gs hW.tc.size) (by rintro (e1 | e1 | e1 | e1); exact e e1; exact h.b2 e1.symm; exact h.l1 e1.symm; exact h.p2 e1.symm))
  · exact T9.row hW.sm (by rintro (e1 | e1 | e1 | e1); exact ho.d1 e1.symm; exact h.b3 e1.symm; exact h.l2 e1.symm; exact h.p3 e1.symm)
  · exact T9.row hW.at_ (by rintro (e1 | e1 | e1 | e1); exact ho.d2 e1.symm; exact h.b4 e1.symm; exact ho.d7 e1; exact h.p4 e1.symm)
  · exact T9.row hW.cn (by rintro (e1 | e1 | e1 | e1); exact ho.d3 e1.symm; exact h.b5 e1.symm; exact h.l3 e1.symm; exact h.p5 e1.symm)
  · have hlo := h.lo
    have c0 := hW.bp.p0
    have c1 := hW.bp.p1
    obtain ⟨q1, q2⟩ := row_cell hlb0 c0
    obtain ⟨q3, q4⟩ := row_cell hlb0 c1
    have g9 := j2.setOther (a := ⟨pl, po, none⟩) (by simpa using h.p6.symm) V
    refine ⟨?_, ?_⟩
    · rw [g9.cell q1, j4 _ (by omega), hF2e _ (by omega), q2]
    · rw [g9.cell q3, j4 _ (by omega), hF2e _ (by omega), q4]
  · have := (j2.setOther (a := ⟨pl, po, none⟩) (by simpa using h.p6.symm) V).lt
    exact this
  · refine ⟨some ⟨lb', l', none⟩, 1 + d, c', ?_, by omega, by omega, ?_, ?_⟩
    · rw [hV]
      have hpc8 : w8.cell? ⟨pl, po, none⟩ = some (.slice (some ⟨x.lb, l0, none⟩) 1 lc') := by
        have e1 : w8.heap[pl]? = B.heap[pl]? := by
          rw [j5.block pl (by have := T7.size; exact Nat.lt_of_lt_of_le hplw0 this) h.p6]
          show w7.heap[pl]? = _
          rw [T7.block pl hplw0 (by rintro (e | e | e); exact h.p1 e; exact h.p7 e; exact h.p6 e), hW.tc.block pl h.p8 (by rintro (e | e); exact h.p1 e; exact h.p4 e)]
        rw [World.cell?_of_block (w := B) (a := ⟨pl, po, none⟩) e1]; exact h.pc
      exact World.cell?_setCell_same' _ _ _ (by rw [hpc8]; rfl)
    · obtain ⟨k1, k2, gb, go, GN, G, e, k3, k4, k5⟩ := j1
      have e2 : lb' = gb := congrArg Addr.block (Option.some.inj e)
      refine ⟨k1, k2, gb, go, GN, G, e, k3.setOther ?_ V, k4, k5⟩
      show gb ≠ pl
      rcases j6 with ⟨e3, _⟩ | e3
      · rw [← e2, e3]; exact h.p6.symm
      · have e4 : w7.heap.size ≤ lb' := e3
        have := T7.size
        omega
    · intro b o e
      have e2 : lb' = b := congrArg Addr.block (Option.some.inj e)
      subst e2
      rcases j6 with ⟨e3, _⟩ | e3
      · rw [e3]; exact ⟨ho.d4.symm, ho.d7.symm⟩
      · have e4 : w7.heap.size ≤ lb' := e3
        have e5 := T7.size
        have e6 := hW.sa.lt
        have e7 := hW.at_.lt
        exact ⟨by omega, by omega⟩
  · rw [World.frozen?_setCell]
    have e1 : w8.heap[pl]? = B.heap[pl]? := by
      rw [j5.block pl (by have := T7.size; exact Nat.lt_of_lt_of_le hplw0 this) h.p6]
      show w7.heap[pl]? = _
      rw [T7.block pl hplw0 (by rintro (e | e | e); exact h.p1 e; exact h.p7 e; exact h.p6 e), hW.tc.block pl h.p8 (by rintro (e | e); exact h.p1 e; exact h.p4 e)]
    rw [World.frozen?_of_block (w := B) (a := ⟨pl, po, none⟩) e1]; exact h.pf
  · have : (w8.setCell ⟨pl, po, none⟩ V).heap.size = w8.heap.size := by simp [World.setCell]
    omega
  · intro y hy
    rw [cell_set_ne _ _ _ _ _ _ (fun _ => hy), ← h.oth y hy]
    have e1 : w8.heap[pl]? = B.heap[pl]? := by
      rw [j5.block pl (by have := T7.size; exact Nat.lt_of_lt_of_le hplw0 this) h.p6]
      show w7.heap[pl]? = _
      rw [T7.block pl hplw0 (by rintro (e | e | e); exact h.p1 e; exact h.p7 e; exact h.p6 e), hW.tc.block pl h.p8 (by rintro (e | e); exact h.p1 e; exact h.p4 e)]
    exact World.cell?_of_block (w := B) (a := ⟨pl, y, none⟩) e1
  · exact ⟨F3, j2.setOther (a := ⟨pl, po, none⟩) (by simpa using h.p6.symm) V, j3, fun y hy => by rw [j4 y (by omega), hF2e y (by omega)]⟩
  · have TB : Touch (fun b => b = x.ga ∨ b = pl ∨ b = x.lb) w w0 := by
      refine ⟨hW.tc.os.trans h.tc.os, hW.tc.tape.trans h.tc.tape, hW.tc.output.trans h.tc.output, Nat.le_trans h.tc.size hW.tc.size, fun k hk hS => ?_⟩
      rw [hW.tc.block k (Nat.lt_of_lt_of_le hk h.tc.size) (by rintro (e | e); exact hS (.inl e); have := h.nt; omega), h.tc.block k hk hS]
    refine ⟨T9.os.trans TB.os, T9.tape.trans TB.tape, T9.output.trans TB.output, Nat.le_trans TB.size T9.size, fun k hk hS => ?_⟩
    rw [T9.block k (Nat.lt_of_lt_of_le hk TB.size) (by
      rintro (e | e | e | e)
      · exact hS (.inl e)
      · have := h.nb; omega
      · exact hS (.inr (.inr e))
      · exact hS (.inr (.inl e))), TB.block k hk hS]
end

/-- the levels joined, as one step of a region -/
theorem step_join {w : World} {ops : Array Oper} {o : Oper} {a : Act} {K : Act → World → Prop} {Q : Exit → Act → World → Prop} {E : Prop} (hgd : o.guard = none) (s x : Operand)
    (ho : o.op = .call { callee := .builtin .append, args := #[s, x], argTypes := #[26, 26] }) (lb l0 lc NL : Nat) (F : Nat → Value) (hR : w.rowIs lb 50 NL F) (hone : ∀ y, y < NL → (F y).oneCell' = true) (hNL : l0 + 3 * lc = NL) (hlc : 1 ≤ lc) (hlm : lc ≤ maxLen) (la : Option Addr) (d c : Nat) (hd : LVr w la d c) (hd1 : 1 ≤ d) (hdm : d ≤ 100000)
    (hev : a.eval s = .slice (some ⟨lb, l0, none⟩) 1 lc) (hex : a.eval x = .slice la d c)
    (h : ∀ (lb' l' c' : Nat) (F2 : Nat → Value) (w' : World), Hid (LVr w' (some ⟨lb', l', none⟩) (1 + d) c' ∧ w'.rowIs lb 50 NL F2 ∧ (∀ y, y < NL → (F2 y).oneCell' = true) ∧ (∀ y, y < l0 + 3 → F2 y = F y) ∧ Touch (· = lb) w w' ∧ ((lb' = lb ∧ l' = l0) ∨ w.heap.size ≤ lb')) → K (a.put o.dst (.slice (some ⟨lb', l', none⟩) (1 + d) c')) w') :
    if Region.wanted o (yielded ops a.tmps) = true then Oper.wp Try.prog o a w K Q else E := by
  obtain ⟨lb', l', c', F2, w', hrun, hrest⟩ := lev_join w o.type lb l0 lc NL F hR hone hNL hlc hlm la d c hd hd1 hdm
  have hw : Region.wanted o (yielded ops a.tmps) = true := by simp [Region.wanted, hgd]
  rw [if_pos hw]
  unfold Oper.wp
  simp [execOp, ho, resolve, invoke, builtin, hev, hex, hrun, Result.andThen]
  exact h lb' l' c' F2 w' hrest
end Go.Proofs.Qxb6606288a
