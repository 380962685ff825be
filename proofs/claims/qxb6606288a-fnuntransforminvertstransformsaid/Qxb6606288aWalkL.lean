/-
  sortSuffixes: the memory ahead of the sort, and what the function leaves, put together. Not trusted: the kernel checks it.
-/
import Derived.Test.Qxb6606288aWalkH
namespace Go.Proofs.Qxb6606288a
open Go.RowKit Go.Deep
set_option linter.unusedVariables false

/-- the append of one level, as a law for the walk -/
theorem wpList_lev {w : World} {ops : Array Oper} {rest : List Oper} {o : Oper} {a : Act} {Q : Exit → Act → World → Prop} (hgd : o.guard = none) (s x : Operand)
    (ho : o.op = .call { callee := .builtin .append, args := #[s, x], argTypes := #[26, 26] }) (la : Option Addr) (lc nb : Nat) (hev : a.eval s = .slice la 0 lc) (hex : a.eval x = .slice (some ⟨nb, 0, none⟩) 1 1)
    (hl : LVp w la lc) (hnb : ∀ j, j < 3 → w.cell? ⟨nb, j, none⟩ = some zl) (hlm : ∀ a, la = some a → a.spot = none) (hn0 : la = none → lc = 0)
    (h : ∀ (lb l0 lc' NL : Nat) (F : Nat → Value) (w' : World), Hid (LVa w (lu la lc) lb l0 lc' NL F w') → wpList Try.prog ops Q rest (a.put o.dst (.slice (some ⟨lb, l0, none⟩) 1 lc')) w') : wpList Try.prog ops Q (o :: rest) a w := by
  obtain ⟨lb, l0, lc', NL, F, w', hrun, hrest⟩ := lev_run w o.type la lc nb hl hnb hlm hn0
  refine wpList_plain hgd fun K hK => ?_
  unfold Oper.wp
  simp [execOp, ho, resolve, invoke, builtin, hev, hex, hrun, Result.andThen]
  exact hK _ _ (h lb l0 lc' NL F w' hrest)

theorem LVp.alloc {w : World} {la : Option Addr} {lc : Nat} (h : LVp w la lc) (o : Obj) : LVp (w.alloc o) la lc := by
  rcases h with h | ⟨lb, lo, NL, F, h1, h2, h3⟩
  · exact .inl h
  · exact .inr ⟨lb, lo, NL, F, h1, h2.alloc o, h3⟩
theorem new3 (w : World) : ∀ j, j < 3 → (w.alloc (.cells #[zl, zl, zl] 50)).cell? ⟨w.heap.size, j, none⟩ = some zl := by
  intro j hj
  have := World.rowIs_alloc w #[zl, zl, zl] 50 (fun _ => zl) (fun i hi => by
    match i, hi with
    | 0, _ => rfl
    | 1, _ => rfl
    | 2, _ => rfl)
  exact this.cell hj
theorem LVa.blk {w : World} {o : Obj} {la : Option Addr} {lb l0 lc NL : Nat} {F : Nat → Value} {w1 : World} (H : LVa (w.alloc o) la lb l0 lc NL F w1) {b : Nat} (hb : b < w.heap.size) (hne : ∀ c p, la = some ⟨c, p, none⟩ → c ≠ b) : w1.heap[b]? = w.heap[b]? := by
  obtain ⟨_, _, _, _, _, _, _, _, hT, _⟩ := H
  rw [hT.block b (by simp; omega) (fun ⟨p, e⟩ => hne b p e rfl), Below.heap_alloc _ _ _ hb]
theorem LVa.ne {w : World} {o : Obj} {la : Option Addr} {lb l0 lc NL : Nat} {F : Nat → Value} {w1 : World} (H : LVa (w.alloc o) la lb l0 lc NL F w1) {b : Nat} (hb : b < w.heap.size) (hne : ∀ c p, la = some ⟨c, p, none⟩ → c ≠ b) : lb ≠ b := by
  obtain ⟨_, _, _, _, _, _, _, _, hT, h⟩ := H
  rcases h with ⟨h, _⟩ | ⟨h, _⟩
  · simp at h; omega
  · exact hne lb l0 h
theorem z50 (w : World) : (zeroValue 50).run Try.prog w = .ok (.agg #[zl, zl, zl]) w := by kernel_rfl

/-- the level, its boxed rest, the types of the suffixes -/
structure LS (s : List Nat) (ga N gs os pl po lb l0 lc' NL bx gm : Nat) (f sym F1 : Nat → Value) (la2 : Option Addr) (w : World) (M : Nat → Bool) (wr : World) : Prop where
  pc : wr.cell? ⟨pl, po, none⟩ = some (.slice (some ⟨lb, l0, none⟩) 1 lc')
  pf : wr.frozen? ⟨pl, po, none⟩ = false
  bc : wr.rowIs bx 26 1 (fun _ => .slice la2 0 (lc' - 1))
  lr : wr.rowIs lb 50 NL F1
  ro : wr.rowIs ga 21 N f
  sy : ∀ i, i < s.length → wr.cell? ⟨gs, os + i, none⟩ = some (sym i)
  sm : wr.rowIs gm 4 s.length (fun i => .bool (M i))
  oth : ∀ y, y ≠ po → wr.cell? ⟨pl, y, none⟩ = w.cell? ⟨pl, y, none⟩
  tc : Touch (fun b => b = ga ∨ b = pl ∨ b = lb) w wr
structure LD (ga gs pl lb bx gm B : Nat) : Prop where
  a1 : ga ≠ gm
  a2 : ga ≠ lb
  a3 : ga ≠ bx
  p1 : pl ≠ ga
  p2 : pl ≠ gs
  p3 : pl ≠ gm
  p4 : pl ≠ lb
  p5 : pl ≠ bx
  b1 : bx ≠ gs
  b2 : bx ≠ gm
  b3 : bx ≠ lb
  l1 : lb ≠ gs
  l2 : lb ≠ gm
  s1 : gs ≠ gm
  nb : B ≤ bx
  nm : B ≤ gm

section
variable {s : List Nat} {ga N gs os pl po lb l0 lc' NL bx gm : Nat} {f sym F1 : Nat → Value} {la2 : Option Addr} {w : World} {M : Nat → Bool} {wr : World}
theorem LS.drew (h : LS s ga N gs os pl po lb l0 lc' NL bx gm f sym F1 la2 w M wr) : LS s ga N gs os pl po lb l0 lc' NL bx gm f sym F1 la2 w M wr.drew := ⟨h.pc, h.pf, h.bc, h.lr, h.ro, h.sy, h.sm, h.oth, h.tc.drew⟩
theorem LS.setM (h : LS s ga N gs os pl po lb l0 lc' NL bx gm f sym F1 la2 w M wr) (hd : LD ga gs pl lb bx gm w.heap.size) (i : Nat) (b : Bool) : LS s ga N gs os pl po lb l0 lc' NL bx gm f sym F1 la2 w (fun y => if y = i then b else M y) (wr.setCell ⟨gm, i, none⟩ (.bool b)) := by
  refine ⟨?_, ?_, h.bc.setOther hd.b2 _, h.lr.setOther hd.l2 _, h.ro.setOther hd.a1 _, fun j hj => ?_, (h.sm.set i _).congr (fun y _ => ?_), fun y hy => ?_, h.tc.setCell (fun e => absurd e (by have := hd.nm; show ¬ gm < _; omega)) _⟩
  · rw [cell_set_ne _ _ _ _ _ _ (fun e => absurd e hd.p3)]; exact h.pc
  · rw [World.frozen?_setCell]; exact h.pf
  · rw [cell_set_ne _ _ _ _ _ _ (fun e => absurd e hd.s1)]; exact h.sy j hj
  · by_cases e : y = i
    · rw [if_pos e, if_pos e]
    · rw [if_neg e, if_neg e]
  · rw [cell_set_ne _ _ _ _ _ _ (fun e => absurd e hd.p3)]; exact h.oth y hy
theorem LS.setL (h : LS s ga N gs os pl po lb l0 lc' NL bx gm f sym F1 la2 w M wr) (hd : LD ga gs pl lb bx gm w.heap.size) (i : Nat) (v : Value) : LS s ga N gs os pl po lb l0 lc' NL bx gm f sym (fun y => if y = i then v else F1 y) la2 w M (wr.setCell ⟨lb, i, none⟩ v) := by
  refine ⟨?_, ?_, h.bc.setOther hd.b3 _, h.lr.set i v, h.ro.setOther hd.a2 _, fun j hj => ?_, h.sm.setOther hd.l2.symm _, fun y hy => ?_, h.tc.setCell (fun _ => .inr (.inr rfl)) _⟩
  · rw [cell_set_ne _ _ _ _ _ _ (fun e => absurd e hd.p4)]; exact h.pc
  · rw [World.frozen?_setCell]; exact h.pf
  · rw [cell_set_ne _ _ _ _ _ _ (fun e => absurd e hd.l1.symm)]; exact h.sy j hj
  · rw [cell_set_ne _ _ _ _ _ _ (fun e => absurd e hd.p4)]; exact h.oth y hy

theorem LS.start {oa lc : Nat} {Aold : Nat → Int} {la : Option Addr} {w1 : World} {F : Nat → Value} {o3 : Obj} (hP : SP s ga oa N gs os pl po f Aold sym la lc w) (H : LVa (w.alloc o3) (lu la lc) lb l0 lc' NL F w1) (la2 : Option Addr) {n : Nat} (hn : s.length = n) :
    LS s ga N gs os pl po lb l0 lc' NL w1.heap.size (w1.heap.size + 1) f sym F la2 w (fun _ => false) (((w1.setCell ⟨pl, po, none⟩ (.slice (some ⟨lb, l0, none⟩) 1 lc')).alloc (.cells #[.slice la2 0 (lc' - 1)] 26)).alloc (.cells (madeCells #[.bool false] n) 4)) ∧
    LD ga gs pl lb w1.heap.size (w1.heap.size + 1) w.heap.size := by
  have hT := H.2.2.2.2.2.2.2.2.1
  have hsz : w.heap.size + 1 ≤ w1.heap.size := by have := hT.size; simpa using this
  have hga := hP.row.lt
  have hgs := hP.gsl
  have hpl := hP.pl1
  have nga : lb ≠ ga := H.ne hga (fun c p e => (hP.la1 c p e).2.1)
  have npl : lb ≠ pl := H.ne hpl (fun c p e => (hP.la1 c p e).2.2.1)
  have ngs : lb ≠ gs := H.ne hgs (fun c p e => (hP.la1 c p e).2.2.2)
  have hlb := H.1.lt
  have bga := H.blk hga (fun c p e => (hP.la1 c p e).2.1)
  have bpl := H.blk hpl (fun c p e => (hP.la1 c p e).2.2.1)
  have bgs := H.blk hgs (fun c p e => (hP.la1 c p e).2.2.2)
  have D : LD ga gs pl lb w1.heap.size (w1.heap.size + 1) w.heap.size := ⟨by omega, nga.symm, by omega, hP.pl2, hP.pl3, by omega, npl.symm, by omega, by omega, by omega, by omega, ngs, by omega, by omega, by omega, by omega⟩
  refine ⟨?_, D⟩
  obtain ⟨V, hV⟩ : ∃ V, Value.slice (some ⟨lb, l0, none⟩) 1 lc' = V := ⟨_, rfl⟩
  have hs1 : (w1.setCell ⟨pl, po, none⟩ V).heap.size = w1.heap.size := by simp [World.setCell]
  have hpc1 : w1.cell? ⟨pl, po, none⟩ = some (.slice la 0 lc) := (World.cell?_of_block (w := w) (a := ⟨pl, po, none⟩) bpl).trans hP.pc
  have hpf1 : w1.frozen? ⟨pl, po, none⟩ = false := (World.frozen?_of_block (w := w) (a := ⟨pl, po, none⟩) bpl).trans hP.pf
  rw [hV]
  obtain ⟨W0, hW0⟩ : ∃ W0, w1.setCell ⟨pl, po, none⟩ V = W0 := ⟨_, rfl⟩
  have hsW : W0.heap.size = w1.heap.size := by rw [← hW0]; exact hs1
  have r1 := World.rowIs_alloc W0 #[.slice la2 0 (lc' - 1)] 26 (fun _ => .slice la2 0 (lc' - 1)) (fun i hi => by
    have : i = 0 := by simp at hi; omega
    subst this; rfl)
  have r2 := World.rowIs_made (W0.alloc (.cells #[.slice la2 0 (lc' - 1)] 26)) (.bool false) n 4
  rw [hsW] at r1
  rw [World.size_alloc, hsW] at r2
  have hbl : ∀ b, b < w1.heap.size → ((W0.alloc (.cells #[.slice la2 0 (lc' - 1)] 26)).alloc (.cells (madeCells #[.bool false] n) 4)).heap[b]? = W0.heap[b]? := fun b hb => by
    rw [Below.heap_alloc _ _ _ (by rw [World.size_alloc, hsW]; omega), Below.heap_alloc _ _ _ (by rw [hsW]; exact hb)]
  have hb0 : ∀ b, b ≠ pl → W0.heap[b]? = w1.heap[b]? := fun b hb => by rw [← hW0]; exact blk_setCell_other _ _ _ _ hb
  rw [hW0]
  refine ⟨?_, ?_, r1.alloc _, ?_, ?_, fun i hi => ?_, ?_, fun y hy => ?_, ?_⟩
  · rw [World.cell?_of_block (w := W0) (a := ⟨pl, po, none⟩) (hbl pl (by omega)), ← hW0, World.cell?_setCell_same' _ _ _ (by rw [hpc1]; rfl), hV]
  · rw [World.frozen?_of_block (w := W0) (a := ⟨pl, po, none⟩) (hbl pl (by omega)), ← hW0, World.frozen?_setCell]; exact hpf1
  · exact H.1.of_block (by rw [hbl lb (by omega), hb0 lb npl])
  · exact hP.row.of_block (by rw [hbl ga (by omega), hb0 ga hP.pl2.symm, bga])
  · rw [World.cell?_of_block (w := w) (a := ⟨gs, os + i, none⟩) (by show _ = _; rw [hbl gs (by omega), hb0 gs hP.pl3.symm, bgs])]; exact hP.sy i hi
  · rw [hn]; exact r2
  · rw [World.cell?_of_block (w := W0) (a := ⟨pl, y, none⟩) (hbl pl (by omega)), ← hW0, cell_set_ne _ _ _ _ _ _ (fun _ => hy)]
    exact World.cell?_of_block (w := w) (a := ⟨pl, y, none⟩) bpl
  · have t1 : Touch (fun b => b = ga ∨ b = pl ∨ b = lb) w w1 := by
      refine ⟨hT.os, hT.tape, hT.output, by omega, fun k hk hS => ?_⟩
      refine H.blk hk (fun c p e => ?_)
      rcases H.2.2.2.2.2.2.2.2.2 with ⟨_, h2⟩ | ⟨h2, _⟩
      · rw [h2] at e; cases e
      · rw [h2] at e
        have e1 : lb = c := congrArg Addr.block (Option.some.inj e)
        intro e2
        exact hS (.inr (.inr (by rw [e1, e2])))
    rw [← hW0]
    exact ((t1.setCell (p := ⟨pl, po, none⟩) (fun _ => .inr (.inl rfl)) V).alloc _).alloc _

/-- the base of the sort: behind countSymbols -/
theorem LS.base {oa k cs ca n gc gt : Nat} {Aold : Nat → Int} {F' : Nat → Value} {w5 : World} (h : LS s ga N gs os pl po lb l0 lc' NL bx gm f sym F1 la2 w (Sais.sm s) wr) (hd : LD ga gs pl lb bx gm w.heap.size)
    (hone : ∀ y, y < NL → (F1 y).oneCell' = true) (hnl : l0 + 3 * lc' = NL) (hlc : 1 ≤ lc') (hlm : lc' ≤ maxLen) (hlae : la2 = if lc' = 1 then some ⟨lb, l0, none⟩ else some ⟨lb, l0 + 3, none⟩) (hgs : gs < w.heap.size) (hpl : pl < w.heap.size) (hnn : s.length = n) (hwin : ∀ i, i < s.length → f (oa + i) = .int .i32 (Aold i)) (hfit : oa + s.length ≤ N) (hdis : gs = ga → oa + s.length ≤ os)
    (h1 : w5.rowIs lb 50 NL F') (h2 : F' (l0 + 1) = .slice (some ⟨gc, 0, none⟩) k k) (h3 : F' (l0 + 1 + 1) = .slice (some ⟨gt, 0, none⟩) k k) (h4 : ∀ x, x ≠ l0 + 1 → x ≠ l0 + 1 + 1 → F' x = F1 x) (h5 : w5.rowIs gc 21 k (fun a => .int .i32 (cntTo s s.length a : Nat))) (h6 : w5.rowIs gt 21 k (fun a => .int .i32 0)) (h7 : wr.heap.size ≤ gc) (h8 : wr.heap.size ≤ gt) (h9 : gc ≠ gt) (h10 : Touch (· = lb) wr w5) :
    Hid (GB ⟨ga, oa, N, gs, os, gm, gt, gc, lb, l0 + 1, k⟩ pl po l0 lc' NL bx F' la2 w w5) ∧ Hid (IW s ⟨ga, oa, N, gs, os, gm, gt, gc, lb, l0 + 1, k⟩ f sym w5 Aold (fun _ => 0) w5) ∧ (Cx.mk ga oa N gs os gm gt gc lb (l0 + 1) k).ok s.length := by
  have hgal := h.ro.lt
  have hbxl := h.bc.lt
  have hgml := h.sm.lt
  have hlbl := h.lr.lt
  have hwz := h.tc.size
  have ho : (Cx.mk ga oa N gs os gm gt gc lb (l0 + 1) k).ok s.length := ⟨hd.a1, by show ga ≠ gt; omega, by show ga ≠ gc; omega, hd.a2, by show gt ≠ gm; omega, h9.symm, by show gt ≠ lb; omega, by show gs ≠ gt; omega, hdis, hfit⟩
  have bpl : w5.heap[pl]? = wr.heap[pl]? := h10.block pl (by omega) hd.p4
  refine ⟨⟨?_, ?_, h10.row h.bc hd.b3, h1, fun y hy => ?_, hnl, hlc, hlm, hlae, rfl, hd.p1, hd.p2, hd.p3, by show pl ≠ gt; omega, by show pl ≠ gc; omega, hd.p4, hd.p5, ?_, hd.a3.symm, hd.b1, hd.b2, by show bx ≠ gt; omega, by show bx ≠ gc; omega, hd.b3, hd.l1, hd.l2, by show lb ≠ gc; omega, ?_, hd.nb, ?_, fun y hy => ?_, ?_⟩, ⟨?_, fun i hi => ?_, h10.row h.sm hd.l2.symm, h6, h5, ⟨?_, ?_⟩, h1.lt, Touch.refl _ _⟩, ho⟩
  · rw [World.cell?_of_block (w := wr) (a := ⟨pl, po, none⟩) bpl]; exact h.pc
  · rw [World.frozen?_of_block (w := wr) (a := ⟨pl, po, none⟩) bpl]; exact h.pf
  · by_cases e1 : y = l0 + 1
    · rw [e1, h2]; rfl
    · by_cases e2 : y = l0 + 1 + 1
      · rw [e2, h3]; rfl
      · rw [h4 y e1 e2]; exact hone y hy
  · have := h10.size; omega
  · have := h10.size; show gs < _; omega
  · show w.heap.size ≤ gt; omega
  · rw [← h.oth y hy]; exact World.cell?_of_block (w := wr) (a := ⟨pl, y, none⟩) bpl
  · exact h.tc.trans (h10.mono (fun b _ e => .inr (.inr e)))
  · refine (h10.row h.ro hd.a2).congr (fun y hy => ?_)
    by_cases e : oa ≤ y ∧ y < oa + s.length
    · show f y = if oa ≤ y ∧ y < oa + s.length then .int .i32 (Aold (y - oa)) else f y
      rw [if_pos e, ← hwin (y - oa) (by omega), show oa + (y - oa) = y by omega]
    · show f y = if oa ≤ y ∧ y < oa + s.length then .int .i32 (Aold (y - oa)) else f y
      rw [if_neg e]
  · rw [← h.sy i hi]
    exact World.cell?_of_block (w := wr) (a := ⟨gs, os + i, none⟩) (h10.block gs (by omega) hd.l1.symm)
  · rw [h1.cell (i := l0 + 1) (by omega), h2]
  · rw [h1.cell (i := l0 + 1 + 1) (by omega), h3]
end

/-- all that the function leaves -/
theorem fin {s : List Nat} {ga oa N gs os gm gt gc lb l0 k pl po NL lc lc' : Nat} {f sym F F' : Nat → Value} {Aold : Nat → Int} {la : Option Addr} {w w1 : World} {o3 : Obj} (hP : SP s ga oa N gs os pl po f Aold sym la lc w) (H : LVa (w.alloc o3) (lu la lc) lb l0 lc' NL F w1)
    (hF : ∀ y, y < l0 → F' y = F y) (hgt : w.heap.size ≤ gt) (SA : List Nat) (T' : Nat → Nat) (B' w' : World) (hSA : Sais.IsSA s SA) (hW : IW s ⟨ga, oa, N, gs, os, gm, gt, gc, lb, l0 + 1, k⟩ f sym B' (fun y => (SA.getD y 0 : Int)) T' w') (hG : GQ s.length ⟨ga, oa, N, gs, os, gm, gt, gc, lb, l0 + 1, k⟩ pl po l0 NL F' w B') (ho : (Cx.mk ga oa N gs os gm gt gc lb (l0 + 1) k).ok s.length) :
    SPost s ga oa N pl po f la lc w (.returned (.tuple #[])) w' := by
  have hsa : w'.rowIs ga 21 N _ := hW.sa
  have hplt := hP.pl1
  have T5 : Touch (fun b => b = ga ∨ b = gt) B' w' := hW.tc
  have bpl : w'.heap[pl]? = B'.heap[pl]? := T5.block pl hG.pl1 (by rintro (e | e); exact hP.pl2 e; omega)
  refine ⟨rfl, SA, _, hSA, hsa, fun i hi => ?_, fun y hy => ?_, ⟨?_, ?_, ?_, ?_, ?_⟩⟩
  · show (if oa ≤ oa + i ∧ oa + i < oa + s.length then Value.int .i32 (SA.getD (oa + i - oa) 0 : Nat) else f (oa + i)) = _
    rw [if_pos ⟨by omega, by omega⟩, Nat.add_sub_cancel_left]
  · show (if oa ≤ y ∧ y < oa + s.length then Value.int .i32 (SA.getD (y - oa) 0 : Nat) else f y) = _
    rw [if_neg (by omega)]
  · obtain ⟨la', d, lc2, c1, c2, c3, c4, c5⟩ := hG.cell
    refine ⟨la', d, lc2, (World.cell?_of_block (w := B') (a := ⟨pl, po, none⟩) bpl).trans c1, c2, c3, ?_⟩
    obtain ⟨q1, q2, gb, go, GN, G, e, q3, q4, q5⟩ := c4
    obtain ⟨n1, n2⟩ := c5 gb go e
    exact ⟨q1, q2, gb, go, GN, G, e, T5.row q3 (by rintro (e | e); exact n1 e; exact n2 e), q4, q5⟩
  · exact (World.frozen?_of_block (w := B') (a := ⟨pl, po, none⟩) bpl).trans hG.fz
  · intro y hy
    exact (World.cell?_of_block (w := B') (a := ⟨pl, y, none⟩) bpl).trans (hG.oth y hy)
  · intro b o e NL2 F2 hr hone
    rcases H.2.2.2.2.2.2.2.2.2 with ⟨_, h2⟩ | ⟨h2, F0, h3, h4⟩
    · rw [h2] at e; cases e
    · rw [h2] at e
      have e1 : lb = b := congrArg Addr.block (Option.some.inj e)
      have e2 : l0 = o := congrArg Addr.off (Option.some.inj e)
      subst e1 e2
      obtain ⟨g1, g2⟩ := row_same h3 (hr.alloc o3)
      subst g1
      obtain ⟨F3, r1, r2, r3⟩ := hG.row
      have hl0 : l0 ≤ NL := by have := H.2.2.2.2.2.1; omega
      exact ⟨F3, T5.row r1 (by rintro (e | e); exact ho.d4 e.symm; exact ho.d7 e.symm), r2, fun y hy => by rw [r3 y hy, hF y hy, h4 y hy, g2 y (by omega)]⟩
  · refine ⟨T5.os.trans hG.tc.os, T5.tape.trans hG.tc.tape, T5.output.trans hG.tc.output, Nat.le_trans hG.tc.size T5.size, fun b hb hS => ?_⟩
    rw [T5.block b (Nat.lt_of_lt_of_le hb hG.tc.size) (by rintro (e | e); exact hS (.inl e); omega), hG.tc.block b hb]
    rintro (e | e | e)
    · exact hS (.inl e)
    · exact hS (.inr (.inl e))
    · have e' : b = lb := e
      rcases H.2.2.2.2.2.2.2.2.2 with ⟨h1, _⟩ | ⟨h2, _⟩
      · simp at h1; omega
      · exact hS (.inr (.inr ⟨l0, by rw [h2, e']⟩))
end Go.Proofs.Qxb6606288a
