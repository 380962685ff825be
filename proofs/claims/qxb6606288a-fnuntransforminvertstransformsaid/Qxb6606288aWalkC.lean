/-
  induce at byte and at int32, walked: it sorts by the keys. Not trusted: the kernel checks it.
-/
import Derived.Test.Qxb6606288aWalkB
namespace Go.Proofs.Qxb6606288a
open Go.RowKit Go.Deep
set_option linter.unusedVariables false

theorem cell_set_ne (w : World) (b o b2 o2 : Nat) (v : Value) (h : b2 = b → o2 ≠ o) : (w.setCell ⟨b, o, none⟩ v).cell? ⟨b2, o2, none⟩ = w.cell? ⟨b2, o2, none⟩ := by
  exact World.cell?_setCell_other (h := fun e => by cases e; exact h rfl rfl) ..

/-- the numbers of the blocks that 'induce' works on -/
structure Cx where
  ga : Nat
  oa : Nat
  N : Nat
  gs : Nat
  os : Nat
  gm : Nat
  gt : Nat
  gc : Nat
  lb : Nat
  lo : Nat
  k : Nat
structure Cx.ok (x : Cx) (n : Nat) : Prop where
  d1 : x.ga ≠ x.gm
  d2 : x.ga ≠ x.gt
  d3 : x.ga ≠ x.gc
  d4 : x.ga ≠ x.lb
  d5 : x.gt ≠ x.gm
  d6 : x.gt ≠ x.gc
  d7 : x.gt ≠ x.lb
  d8 : x.gs ≠ x.gt
  d9 : x.gs = x.ga → x.oa + n ≤ x.os
  fit : x.oa + n ≤ x.N

structure IW (s : List Nat) (x : Cx) (f0 sym : Nat → Value) (w : World) (A : Nat → Int) (T : Nat → Nat) (wr : World) : Prop where
  sa : wr.rowIs x.ga 21 x.N (fun y => if x.oa ≤ y ∧ y < x.oa + s.length then .int .i32 (A (y - x.oa)) else f0 y)
  sy : ∀ i, i < s.length → wr.cell? ⟨x.gs, x.os + i, none⟩ = some (sym i)
  sm : wr.rowIs x.gm 4 s.length (fun i => .bool (Sais.sm s i))
  at_ : wr.rowIs x.gt 21 x.k (fun a => .int .i32 (T a : Nat))
  cn : wr.rowIs x.gc 21 x.k (fun a => .int .i32 (cntTo s s.length a : Nat))
  bp : Bp wr x.lb x.lo x.gc x.gt x.k
  lv : x.lb < wr.heap.size
  tc : Touch (fun b => b = x.ga ∨ b = x.gt) w wr

variable {s : List Nat} {x : Cx} {f0 sym : Nat → Value} {w wr : World} {A : Nat → Int} {T : Nat → Nat}
theorem IW.cellA (h : IW s x f0 sym w A T wr) (ho : x.ok s.length) {i : Nat} (hi : i < s.length) : wr.cell? ⟨x.ga, x.oa + i, none⟩ = some (.int .i32 (A i)) := by
  have hf := ho.fit
  rw [h.sa.cell (i := x.oa + i) (by omega), if_pos ⟨by omega, by omega⟩, Nat.add_sub_cancel_left]
theorem IW.congr (h : IW s x f0 sym w A T wr) {A' : Nat → Int} {T' : Nat → Nat} (hA : ∀ i, i < s.length → A' i = A i) (hT : ∀ a, a < x.k → T' a = T a) : IW s x f0 sym w A' T' wr :=
  ⟨h.sa.congr (fun y _ => by
    by_cases e : x.oa ≤ y ∧ y < x.oa + s.length
    · rw [if_pos e, if_pos e, hA _ (by omega)]
    · rw [if_neg e, if_neg e]), h.sy, h.sm, h.at_.congr (fun a ha => by rw [hT a ha]), h.cn, h.bp, h.lv, h.tc⟩
theorem IW.drew (h : IW s x f0 sym w A T wr) : IW s x f0 sym w A T wr.drew := ⟨h.sa, h.sy, h.sm, h.at_, h.cn, ⟨h.bp.p0, h.bp.p1⟩, h.lv, h.tc.drew⟩
theorem IW.setA (h : IW s x f0 sym w A T wr) (ho : x.ok s.length) {i : Nat} (hi : i < s.length) (v : Int) {A' : Nat → Int} (hA : ∀ y, y < s.length → A' y = if y = i then v else A y) : IW s x f0 sym w A' T (wr.setCell ⟨x.ga, x.oa + i, none⟩ (.int .i32 v)) := by
  have hl : (wr.setCell ⟨x.ga, x.oa + i, none⟩ (.int .i32 v)).heap.size = wr.heap.size := by simp [World.setCell]
  refine ⟨(h.sa.set (x.oa + i) _).congr (fun y _ => ?_), fun j hj => ?_, h.sm.setOther ho.d1.symm _, h.at_.setOther ho.d2.symm _, h.cn.setOther ho.d3.symm _, ⟨?_, ?_⟩, by rw [hl]; exact h.lv, h.tc.setCell (fun _ => .inl rfl) _⟩
  · by_cases e : y = x.oa + i
    · subst e
      rw [if_pos rfl, if_pos ⟨by omega, by omega⟩, Nat.add_sub_cancel_left, hA i hi, if_pos rfl]
    · rw [if_neg e]
      by_cases e2 : x.oa ≤ y ∧ y < x.oa + s.length
      · rw [if_pos e2, if_pos e2, hA _ (by omega), if_neg (by omega)]
      · rw [if_neg e2, if_neg e2]
  · rw [cell_set_ne _ _ _ _ _ _ (fun e => by have := ho.d9 e; omega)]; exact h.sy j hj
  · rw [cell_set_ne _ _ _ _ _ _ (fun e => absurd e.symm ho.d4)]; exact h.bp.p0
  · rw [cell_set_ne _ _ _ _ _ _ (fun e => absurd e.symm ho.d4)]; exact h.bp.p1
theorem IW.setT (h : IW s x f0 sym w A T wr) (ho : x.ok s.length) (a v : Nat) {T' : Nat → Nat} (hT : ∀ b, b < x.k → T' b = if b = a then v else T b) : IW s x f0 sym w A T' (wr.setCell ⟨x.gt, a, none⟩ (.int .i32 v)) := by
  have hl : (wr.setCell ⟨x.gt, a, none⟩ (.int .i32 v)).heap.size = wr.heap.size := by simp [World.setCell]
  refine ⟨h.sa.setOther ho.d2 _, fun j hj => ?_, h.sm.setOther ho.d5.symm _, (h.at_.set a _).congr (fun b hb => ?_), h.cn.setOther ho.d6.symm _, ⟨?_, ?_⟩, by rw [hl]; exact h.lv, h.tc.setCell (fun _ => .inr rfl) _⟩
  · rw [cell_set_ne _ _ _ _ _ _ (fun e => absurd e ho.d8)]; exact h.sy j hj
  · rw [hT b hb]; by_cases e : b = a
    · rw [if_pos e, if_pos e]
    · rw [if_neg e, if_neg e]
  · rw [cell_set_ne _ _ _ _ _ _ (fun e => absurd e.symm ho.d7)]; exact h.bp.p0
  · rw [cell_set_ne _ _ _ _ _ _ (fun e => absurd e.symm ho.d7)]; exact h.bp.p1
/-- the buckets filled anew -/
theorem IW.newT (h : IW s x f0 sym w A T wr) (ho : x.ok s.length) {w2 : World} {T' : Nat → Nat} (hR : w2.rowIs x.gt 21 x.k (fun a => .int .i32 (T' a : Nat))) (hT : Touch (· = x.gt) wr w2) (hgs : x.gs < wr.heap.size) : IW s x f0 sym w A T' w2 :=
  ⟨hT.row h.sa ho.d2, fun j hj => (World.cell?_of_block (w := wr) (a := ⟨x.gs, x.os + j, none⟩) (hT.block x.gs hgs ho.d8)).trans (h.sy j hj), hT.row h.sm ho.d5.symm, hR, hT.row h.cn ho.d6.symm, h.bp.touch hT h.lv ho.d7.symm, Nat.lt_of_lt_of_le h.lv hT.size, h.tc.trans (hT.mono (fun b _ e => .inr e))⟩

theorem cntTo_cnt (s : List Nat) (a : Nat) : cntTo s s.length a = Sais.cnt s (fun q => decide (Sais.c s q = a)) := rfl
theorem sum_head (s : List Nat) : ∀ a, sumTo (cntTo s s.length) a = Sais.head s a
  | 0 => by
    unfold Sais.head Sais.cnt
    simp [sumTo]
  | a + 1 => by
    simp only [sumTo]
    rw [sum_head s a, cntTo_cnt]
    unfold Sais.head
    rw [← Sais.cnt_or]
    · exact Sais.cnt_congr (fun x _ => by rw [Bool.eq_iff_iff]; simp; omega)
    · intro x _ h1 h2; simp at h1 h2; omega
theorem sum_tail (s : List Nat) (a : Nat) : sumTo (cntTo s s.length) (a + 1) = Sais.tail s a := by
  rw [sum_head]
  unfold Sais.head Sais.tail
  exact Sais.cnt_congr (fun x _ => by rw [Bool.eq_iff_iff]; simp; omega)
theorem head_le (s : List Nat) (a : Nat) : Sais.head s a ≤ s.length := Sais.cnt_le _

set_option maxHeartbeats 8000000 in
set_option maxRecDepth 100000 in
theorem ind20 (s : List Nat) (x : Cx) (f0 : Nat → Value) (cs ca : Nat) (e0 : Nat → Nat) (A0 : Nat → Int) (T0 : Nat → Nat) (w : World) (ho : x.ok s.length) (hn0 : 0 < s.length) (hn : s.length ≤ 100000) (hk : x.k ≤ 100000) (hsk : ∀ i, i < s.length → Sais.c s i < x.k)
    (hcs : s.length ≤ cs) (hcm : x.os + cs ≤ 2 ^ 62) (hca : s.length ≤ ca) (hcm2 : x.oa + ca ≤ 2 ^ 62) (hgs : x.gs < w.heap.size) (H : Sais.Init s e0) (HA : Sais.Laid s e0 A0) (hW : IW s x f0 (fun i => .int .u8 (Sais.c s i : Nat)) w A0 T0 w) :
    Calls Try.prog 20 #[.slice (some ⟨x.gs, x.os, none⟩) s.length cs, .slice (some ⟨x.ga, x.oa, none⟩) s.length ca, .slice (some ⟨x.gm, 0, none⟩) s.length s.length, .pointer (some ⟨x.lb, x.lo, none⟩)] w
      fun e w' => e = .returned (.tuple #[]) ∧ ∃ T', IW s x f0 (fun i => .int .u8 (Sais.c s i : Nat)) w (fun y => (Sais.ux s e0 y : Int)) T' w' := by
  have HH := hide H
  have HL := hide HA
  have HO := hide ho
  have HK := hide hsk
  have S24 := hide (heads24 x.lb x.lo x.gc x.gt x.k (cntTo s s.length) T0 w hk hW.bp hW.cn hW.at_ (by rw [sum_head]; have := head_le s x.k; omega) hW.lv ho.d7.symm ho.d6.symm)
  have HW := hide hW
  obtain ⟨n, hnn⟩ : ∃ n, s.length = n := ⟨_, rfl⟩
  rw [hnn] at hn0 hn hcs hca
  have HN := hide hnn
  have hlast := HW.out.sy (s.length - 1) (by omega)
  have hcl := hsk (s.length - 1) (by omega)
  rw [hnn] at hlast hcl ⊢
  clear H HA ho hsk hW hnn
  go_enter Try.func20, Try.ntmps20
  go_wp2_with fail
  refine (S24.out).mono ?_
  rintro e w1 ⟨rfl, hr1, ht1⟩
  have W1 : Hid (IW s x f0 (fun i => .int .u8 (Sais.c s i : Nat)) w A0 (Sais.head s) w1) := HW.out.newT HO.out (hr1.congr (fun a _ => by rw [sum_head])) ht1 hgs
  clear hr1 ht1 S24
  have a1 := W1.out.bp.p1
  have a2 := W1.out.at_.cell hcl
  have a3 := W1.out.at_.frozen (Sais.c s (n - 1))
  have hhd : Sais.head s (Sais.c s (n - 1)) < n := by
    have h1 := Sais.idx_last HH.out (by rw [HN.out]; omega)
    have h2 := Sais.idx_lt HH.out (p := s.length - 1) (by rw [HN.out]; omega)
    rw [h1, HN.out] at h2; exact h2
  have a4 := W1.out.cellA HO.out (i := Sais.head s (Sais.c s (n - 1))) (by rw [HN.out]; exact hhd)
  have a5 := W1.out.sa.frozen (x.oa + Sais.head s (Sais.c s (n - 1)))
  have W2 : Hid (IW s x f0 (fun i => .int .u8 (Sais.c s i : Nat)) w (Sais.specL s e0 A0 0) (Sais.head s) (w1.setCell ⟨x.ga, x.oa + Sais.head s (Sais.c s (n - 1)), none⟩ (.int .i32 ((n - 1 : Nat) : Int)))) := by
    refine W1.out.setA HO.out (by rw [HN.out]; exact hhd) _ (fun y hy => ?_)
    rw [Sais.specL_zero HH.out (by rw [HN.out]; omega) hy, HN.out]
  obtain ⟨W, hWe⟩ : ∃ W, w1.setCell ⟨x.ga, x.oa + Sais.head s (Sais.c s (n - 1)), none⟩ (.int .i32 ((n - 1 : Nat) : Int)) = W := ⟨_, rfl⟩
  rw [hWe] at W2
  have b1 := W2.out.bp.p1
  have b2 := W2.out.at_.cell hcl
  have b3 := W2.out.at_.frozen (Sais.c s (n - 1))
  have W3 : Hid (IW s x f0 (fun i => .int .u8 (Sais.c s i : Nat)) w (Sais.specL s e0 A0 0) (Sais.atL s e0 0) (W.setCell ⟨x.gt, Sais.c s (n - 1), none⟩ (.int .i32 ((Sais.head s (Sais.c s (n - 1)) + 1 : Nat) : Int)))) := by
    refine W2.out.setT HO.out _ _ (fun b hb => ?_)
    rw [Sais.atL_zero (by rw [HN.out]; omega), HN.out]
    by_cases e : b = Sais.c s (n - 1)
    · rw [if_pos e, if_pos e, e]
    · rw [if_neg e, if_neg e]
  obtain ⟨ch, hch⟩ : ∃ ch, Sais.c s (n - 1) = ch := ⟨_, rfl⟩
  rw [hch] at hcl a2 a3 hhd a4 a5 b2 b3 W3 hWe hlast
  obtain ⟨hd, hhde⟩ : ∃ hd, Sais.head s ch = hd := ⟨_, rfl⟩
  rw [hhde] at a2 hhd a4 a5 b2 W3 hWe
  have hl1 : w1.cell? ⟨x.gs, x.os + (n - 1), none⟩ = some (.int .u8 (ch : Nat)) := by
    have := W1.out.sy (n - 1) (by rw [HN.out]; omega)
    rw [hch] at this; exact this
  have e1 : ((n : Int) - 1).toNat = n - 1 := by omega
  have e2 : (((n - 1 : Nat)) : Int) = (n : Int) - 1 := by omega
  rw [e2] at hWe
  clear hch hhde hlast W1 W2
  go_wp2
  go_loopw [45] (fun v wr => ∃ i : Nat, i ≤ n ∧ v = .int .i64 i ∧ IW s x f0 (fun i => .int .u8 (Sais.c s i : Nat)) w (Sais.specL s e0 A0 i) (Sais.atL s e0 i) wr) (fun v _ => n - (intOf v).toNat)
  case atStart => exact ⟨0, Nat.zero_le _, rfl, by
    have := W3.out
    rw [show ((hd + 1 : Nat) : Int) = (hd : Int) + 1 from rfl] at this; exact this⟩
  case round =>
    clear a1 a2 a3 a4 a5 b1 b2 b3 W3 hl1
    obtain ⟨i, hi, rfl, hW⟩ := hrel
    have HW := hide hW
    clear hW
    by_cases hlt : i < n
    case neg =>
      obtain rfl : n = i := by omega
      have hgs2 : x.gs < wr.heap.size := Nat.lt_of_lt_of_le hgs HW.out.tc.size
      have S19 := hide (tails19 x.lb x.lo x.gc x.gt x.k (cntTo s s.length) (Sais.atL s e0 n) wr hk HW.out.bp HW.out.cn HW.out.at_ (by rw [sum_head]; have := head_le s x.k; have := HN.out; omega) HW.out.lv HO.out.d7.symm HO.out.d6.symm)
      clear hlt
      go_wp2_with fail
      refine (S19.out).mono ?_
      rintro e w6 ⟨rfl, hr1, ht1⟩
      have W6 : Hid (IW s x f0 (fun i => .int .u8 (Sais.c s i : Nat)) w (Sais.specS s e0 A0 n) (Sais.atS s e0 n) w6) := by
        refine (HW.out.newT HO.out (hr1.congr (fun a _ => by rw [sum_tail])) ht1 hgs2).congr (fun y hy => ?_) (fun a _ => ?_)
        · have := Sais.specS_top (A0 := A0) HH.out hy
          rw [HN.out] at this; exact this
        · have := Sais.atS_top HH.out a
          rw [HN.out] at this; exact this
      clear hr1 ht1 S19 HW hgs2
      go_wp2
      go_loopw [12] (fun v wr => ∃ i : Nat, i ≤ n ∧ v = .int .i64 ((i : Int) - 1) ∧ IW s x f0 (fun i => .int .u8 (Sais.c s i : Nat)) w (Sais.specS s e0 A0 i) (Sais.atS s e0 i) wr) (fun v _ => (intOf v + 1).toNat)
      case atStart => exact ⟨n, Nat.le_refl _, rfl, W6.out⟩
      case round =>
        clear W6
        obtain ⟨i, hi2, rfl, hW⟩ := hrel
        have HW := hide hW
        clear hW
        by_cases hi0 : i = 0
        · subst hi0
          have N : Hid (IW s x f0 (fun i => .int .u8 (Sais.c s i : Nat)) w (fun y => (Sais.ux s e0 y : Int)) (Sais.atS s e0 0) wr) := HW.out.congr (fun y _ => (Sais.specS_zero HH.out).symm) (fun _ _ => rfl)
          clear HW
          go_wp2
          go_end0
          exact ⟨rfl, _, N.out⟩
        obtain ⟨i, rfl⟩ : ∃ i', i = i' + 1 := ⟨i - 1, by omega⟩
        have ei : (((i + 1 : Nat) : Int) - 1) = (i : Int) := by omega
        rw [ei]
        clear ei hi0
        have ca1 := HW.out.cellA HO.out (i := i) (by rw [HN.out]; omega)
        have hiN : (i : Int) < (n : Int) := by omega
        rcases Sais.roundS (A0 := A0) HH.out (i := i) (by rw [HN.out]; omega) with ⟨j, v1, v2, v3, v4, v4b, v5, v6⟩ | ⟨v1, v3, v4⟩
        · rw [HN.out] at v2 v4b
          have cj := HK.out j (by rw [HN.out]; exact v2)
          have ca2 := HW.out.sm.cell (i := j) (by rw [HN.out]; exact v2)
          have ca3 := HW.out.sy j (by rw [HN.out]; exact v2)
          have ca4 := HW.out.bp.p1
          have ca5 := HW.out.at_.cell cj
          have ca6 := HW.out.at_.frozen (Sais.c s j)
          obtain ⟨t, ht⟩ : ∃ t, Sais.atS s e0 (i + 1) (Sais.c s j) = t + 1 := ⟨Sais.atS s e0 (i + 1) (Sais.c s j) - 1, by omega⟩
          rw [ht] at v4 v4b ca5
          have N1 : Hid (IW s x f0 (fun i => .int .u8 (Sais.c s i : Nat)) w (Sais.specS s e0 A0 (i + 1)) (Sais.atS s e0 i) (wr.setCell ⟨x.gt, Sais.c s j, none⟩ (.int .i32 (t : Nat))).drew) := by
            refine (HW.out.setT HO.out _ _ (fun b hb => ?_)).drew
            rw [v6]
            by_cases e : b = Sais.c s j
            · rw [if_pos e, if_pos e, e, ht]; rfl
            · rw [if_neg e, if_neg e]
          rw [v1] at ca1
          rw [v3] at ca2
          obtain ⟨W5, hW5⟩ : ∃ W5, (wr.setCell ⟨x.gt, Sais.c s j, none⟩ (.int .i32 (t : Nat))).drew = W5 := ⟨_, rfl⟩
          rw [hW5] at N1
          have cb4 := N1.out.bp.p1
          have cb3 := N1.out.sy j (by rw [HN.out]; exact v2)
          have cb5 := N1.out.at_.cell cj
          have cb5' : W5.cell? ⟨x.gt, Sais.c s j, none⟩ = some (.int .i32 (t : Nat)) := by
            rw [v6, if_pos rfl, ht] at cb5; exact cb5
          have cb6 := N1.out.cellA HO.out (i := t) (by rw [HN.out]; omega)
          have cb7 := N1.out.sa.frozen (x.oa + t)
          have N2 : Hid (IW s x f0 (fun i => .int .u8 (Sais.c s i : Nat)) w (Sais.specS s e0 A0 i) (Sais.atS s e0 i) (W5.setCell ⟨x.ga, x.oa + t, none⟩ (.int .i32 (j : Int))).drew) := by
            refine (N1.out.setA HO.out (by rw [HN.out]; omega) _ (fun y hy => ?_)).drew
            rw [v5 y hy, ht]; rfl
          obtain ⟨ch2, hch2⟩ : ∃ t, Sais.c s j = t := ⟨_, rfl⟩
          rw [hch2] at cj ca3 ca5 ca6 cb3 cb5' hW5
          have ej : ((j : Int) + 1 - 1) = (j : Int) := by omega
          have et : ((t : Int) + 1 - 1) = (t : Int) := by omega
          have eb1 : (t : Int) < (n : Int) := by omega
          have eb2 : (j : Int) < (n : Int) := by omega
          have eb3 : (ch2 : Int) < (x.k : Int) := by omega
          clear v5 v6 N1 hch2 HW v1 ht cb5
          go_wp2
          go_region
          go_wp2
          go_region
          go_wp2
          go_roundw
          case rel => exact ⟨i, by omega, by go_num, N2.out⟩
          case measure => simp [intOf]
        · have N2 : Hid (IW s x f0 (fun i => .int .u8 (Sais.c s i : Nat)) w (Sais.specS s e0 A0 i) (Sais.atS s e0 i) wr) := HW.out.congr v3 (fun a _ => v4 a)
          obtain ⟨V, hV⟩ : ∃ V, Sais.specS s e0 A0 (i + 1) i = V := ⟨_, rfl⟩
          rw [hV] at ca1 v1
          clear v3 v4 hV
          rcases v1 with rfl | ⟨j, rfl, v5, v6⟩
          · clear HW
            go_wp2
            go_roundw
            case rel => exact ⟨i, by omega, by go_num, N2.out⟩
            case measure => simp [intOf]
          · rw [HN.out] at v5
            have ca2 := HW.out.sm.cell (i := j) (by rw [HN.out]; exact v5)
            rw [v6] at ca2
            have ej : ((j : Int) + 1 - 1) = (j : Int) := by omega
            clear HW
            go_wp2
            go_roundw
            case rel => exact ⟨i, by omega, by go_num, N2.out⟩
            case measure => simp [intOf]
    have ca1 := HW.out.cellA HO.out (i := i) (by rw [HN.out]; exact hlt)
    rcases Sais.roundL HH.out HL.out (i := i) (by rw [HN.out]; exact hlt) with ⟨j, v1, v2, v3, v4, v5, v6⟩ | ⟨v1, v2, v3, v4⟩
    · rw [HN.out] at v2 v4
      have cj := HK.out j (by rw [HN.out]; exact v2)
      have ca2 := HW.out.sm.cell (i := j) (by rw [HN.out]; exact v2)
      have ca3 := HW.out.sy j (by rw [HN.out]; exact v2)
      have ca4 := HW.out.bp.p1
      have ca5 := HW.out.at_.cell cj
      have ca6 := HW.out.cellA HO.out (i := Sais.atL s e0 i (Sais.c s j)) (by rw [HN.out]; exact v4)
      have ca7 := HW.out.sa.frozen (x.oa + Sais.atL s e0 i (Sais.c s j))
      have N1 : Hid (IW s x f0 (fun i => .int .u8 (Sais.c s i : Nat)) w (Sais.specL s e0 A0 (i + 1)) (Sais.atL s e0 i) (wr.setCell ⟨x.ga, x.oa + Sais.atL s e0 i (Sais.c s j), none⟩ (.int .i32 (j : Int))).drew) :=
        (HW.out.setA HO.out (by rw [HN.out]; exact v4) _ v5).drew
      rw [v1] at ca1
      rw [v3] at ca2
      obtain ⟨W5, hW5⟩ : ∃ W5, (wr.setCell ⟨x.ga, x.oa + Sais.atL s e0 i (Sais.c s j), none⟩ (.int .i32 (j : Int))).drew = W5 := ⟨_, rfl⟩
      rw [hW5] at N1
      have cb4 := N1.out.bp.p1
      have cb3 := N1.out.sy j (by rw [HN.out]; exact v2)
      have cb5 := N1.out.at_.cell cj
      have cb6 := N1.out.at_.frozen (Sais.c s j)
      have N2 : Hid (IW s x f0 (fun i => .int .u8 (Sais.c s i : Nat)) w (Sais.specL s e0 A0 (i + 1)) (Sais.atL s e0 (i + 1)) (W5.setCell ⟨x.gt, Sais.c s j, none⟩ (.int .i32 ((Sais.atL s e0 i (Sais.c s j) + 1 : Nat) : Int))).drew) := by
        refine (N1.out.setT HO.out _ _ (fun b hb => ?_)).drew
        rw [v6]
        by_cases e : b = Sais.c s j
        · rw [if_pos e, if_pos e, e]
        · rw [if_neg e, if_neg e]
      rw [show ((Sais.atL s e0 i (Sais.c s j) + 1 : Nat) : Int) = (Sais.atL s e0 i (Sais.c s j) : Int) + 1 from rfl] at N2
      obtain ⟨at_, hat⟩ : ∃ t, Sais.atL s e0 i (Sais.c s j) = t := ⟨_, rfl⟩
      rw [hat] at ca5 ca6 ca7 hW5 cb5 N2 v4
      obtain ⟨ch2, hch2⟩ : ∃ t, Sais.c s j = t := ⟨_, rfl⟩
      rw [hch2] at cj ca3 ca5 cb3 cb5 cb6 N2
      have ej : ((j : Int) + 1 - 1) = (j : Int) := by omega
      have eb1 : (at_ : Int) < (n : Int) := by omega
      have eb2 : (j : Int) < (n : Int) := by omega
      have eb3 : (ch2 : Int) < (x.k : Int) := by omega
      clear v5 v6 N1 hat hch2 HW v1
      go_wp2
      go_region
      go_wp2
      go_region
      go_wp2
      go_roundw
      case rel => exact ⟨i + 1, by omega, by go_num, N2.out⟩
      case measure => simp [intOf]; omega
    · have N2 : Hid (IW s x f0 (fun i => .int .u8 (Sais.c s i : Nat)) w (Sais.specL s e0 A0 (i + 1)) (Sais.atL s e0 (i + 1)) wr) := HW.out.congr v3 (fun a _ => v4 a)
      obtain ⟨V, hV⟩ : ∃ V, Sais.specL s e0 A0 i i = V := ⟨_, rfl⟩
      rw [hV] at ca1 v1 v2
      clear v3 v4 hV
      rcases v1 with v1 | ⟨j, rfl, v5, v6⟩
      · have d1 : decide ((0 : Int) ≤ V - 1) = false := by simp; omega
        clear HW
        go_wp2
        go_roundw
        case rel => exact ⟨i + 1, by omega, by go_num, N2.out⟩
        case measure => simp [intOf]; omega
      · rw [HN.out] at v5
        have ca2 := HW.out.sm.cell (i := j) (by rw [HN.out]; exact v5)
        rw [v6] at ca2
        have ej : ((j : Int) + 1 - 1) = (j : Int) := by omega
        clear HW
        go_wp2
        go_roundw
        case rel => exact ⟨i + 1, by omega, by go_num, N2.out⟩
        case measure => simp [intOf]; omega

/-! ### the twin at int32 -/
set_option maxHeartbeats 8000000 in
set_option maxRecDepth 100000 in
theorem ind26 (s : List Nat) (x : Cx) (f0 : Nat → Value) (cs ca : Nat) (e0 : Nat → Nat) (A0 : Nat → Int) (T0 : Nat → Nat) (w : World) (ho : x.ok s.length) (hn0 : 0 < s.length) (hn : s.length ≤ 100000) (hk : x.k ≤ 100000) (hsk : ∀ i, i < s.length → Sais.c s i < x.k)
    (hcs : s.length ≤ cs) (hcm : x.os + cs ≤ 2 ^ 62) (hca : s.length ≤ ca) (hcm2 : x.oa + ca ≤ 2 ^ 62) (hgs : x.gs < w.heap.size) (H : Sais.Init s e0) (HA : Sais.Laid s e0 A0) (hW : IW s x f0 (fun i => .int .i32 (Sais.c s i : Nat)) w A0 T0 w) :
    Calls Try.prog 26 #[.slice (some ⟨x.gs, x.os, none⟩) s.length cs, .slice (some ⟨x.ga, x.oa, none⟩) s.length ca, .slice (some ⟨x.gm, 0, none⟩) s.length s.length, .pointer (some ⟨x.lb, x.lo, none⟩)] w
      fun e w' => e = .returned (.tuple #[]) ∧ ∃ T', IW s x f0 (fun i => .int .i32 (Sais.c s i : Nat)) w (fun y => (Sais.ux s e0 y : Int)) T' w' := by
  have HH := hide H
  have HL := hide HA
  have HO := hide ho
  have HK := hide hsk
  have S24 := hide (heads24 x.lb x.lo x.gc x.gt x.k (cntTo s s.length) T0 w hk hW.bp hW.cn hW.at_ (by rw [sum_head]; have := head_le s x.k; omega) hW.lv ho.d7.symm ho.d6.symm)
  have HW := hide hW
  obtain ⟨n, hnn⟩ : ∃ n, s.length = n := ⟨_, rfl⟩
  rw [hnn] at hn0 hn hcs hca
  have HN := hide hnn
  have hlast := HW.out.sy (s.length - 1) (by omega)
  have hcl := hsk (s.length - 1) (by omega)
  rw [hnn] at hlast hcl ⊢
  clear H HA ho hsk hW hnn
  go_enter Try.func26, Try.ntmps26
  go_wp2_with fail
  refine (S24.out).mono ?_
  rintro e w1 ⟨rfl, hr1, ht1⟩
  have W1 : Hid (IW s x f0 (fun i => .int .i32 (Sais.c s i : Nat)) w A0 (Sais.head s) w1) := HW.out.newT HO.out (hr1.congr (fun a _ => by rw [sum_head])) ht1 hgs
  clear hr1 ht1 S24
  have a1 := W1.out.bp.p1
  have a2 := W1.out.at_.cell hcl
  have a3 := W1.out.at_.frozen (Sais.c s (n - 1))
  have hhd : Sais.head s (Sais.c s (n - 1)) < n := by
    have h1 := Sais.idx_last HH.out (by rw [HN.out]; omega)
    have h2 := Sais.idx_lt HH.out (p := s.length - 1) (by rw [HN.out]; omega)
    rw [h1, HN.out] at h2; exact h2
  have a4 := W1.out.cellA HO.out (i := Sais.head s (Sais.c s (n - 1))) (by rw [HN.out]; exact hhd)
  have a5 := W1.out.sa.frozen (x.oa + Sais.head s (Sais.c s (n - 1)))
  have W2 : Hid (IW s x f0 (fun i => .int .i32 (Sais.c s i : Nat)) w (Sais.specL s e0 A0 0) (Sais.head s) (w1.setCell ⟨x.ga, x.oa + Sais.head s (Sais.c s (n - 1)), none⟩ (.int .i32 ((n - 1 : Nat) : Int)))) := by
    refine W1.out.setA HO.out (by rw [HN.out]; exact hhd) _ (fun y hy => ?_)
    rw [Sais.specL_zero HH.out (by rw [HN.out]; omega) hy, HN.out]
  obtain ⟨W, hWe⟩ : ∃ W, w1.setCell ⟨x.ga, x.oa + Sais.head s (Sais.c s (n - 1)), none⟩ (.int .i32 ((n - 1 : Nat) : Int)) = W := ⟨_, rfl⟩
  rw [hWe] at W2
  have b1 := W2.out.bp.p1
  have b2 := W2.out.at_.cell hcl
  have b3 := W2.out.at_.frozen (Sais.c s (n - 1))
  have W3 : Hid (IW s x f0 (fun i => .int .i32 (Sais.c s i : Nat)) w (Sais.specL s e0 A0 0) (Sais.atL s e0 0) (W.setCell ⟨x.gt, Sais.c s (n - 1), none⟩ (.int .i32 ((Sais.head s (Sais.c s (n - 1)) + 1 : Nat) : Int)))) := by
    refine W2.out.setT HO.out _ _ (fun b hb => ?_)
    rw [Sais.atL_zero (by rw [HN.out]; omega), HN.out]
    by_cases e : b = Sais.c s (n - 1)
    · rw [if_pos e, if_pos e, e]
    · rw [if_neg e, if_neg e]
  obtain ⟨ch, hch⟩ : ∃ ch, Sais.c s (n - 1) = ch := ⟨_, rfl⟩
  rw [hch] at hcl a2 a3 hhd a4 a5 b2 b3 W3 hWe hlast
  obtain ⟨hd, hhde⟩ : ∃ hd, Sais.head s ch = hd := ⟨_, rfl⟩
  rw [hhde] at a2 hhd a4 a5 b2 W3 hWe
  have hl1 : w1.cell? ⟨x.gs, x.os + (n - 1), none⟩ = some (.int .i32 (ch : Nat)) := by
    have := W1.out.sy (n - 1) (by rw [HN.out]; omega)
    rw [hch] at this; exact this
  have e1 : ((n : Int) - 1).toNat = n - 1 := by omega
  have e2 : (((n - 1 : Nat)) : Int) = (n : Int) - 1 := by omega
  rw [e2] at hWe
  clear hch hhde hlast W1 W2
  go_wp2
  go_loopw [45] (fun v wr => ∃ i : Nat, i ≤ n ∧ v = .int .i64 i ∧ IW s x f0 (fun i => .int .i32 (Sais.c s i : Nat)) w (Sais.specL s e0 A0 i) (Sais.atL s e0 i) wr) (fun v _ => n - (intOf v).toNat)
  case atStart => exact ⟨0, Nat.zero_le _, rfl, by
    have := W3.out
    rw [show ((hd + 1 : Nat) : Int) = (hd : Int) + 1 from rfl] at this; exact this⟩
  case round =>
    clear a1 a2 a3 a4 a5 b1 b2 b3 W3 hl1
    obtain ⟨i, hi, rfl, hW⟩ := hrel
    have HW := hide hW
    clear hW
    by_cases hlt : i < n
    case neg =>
      obtain rfl : n = i := by omega
      have hgs2 : x.gs < wr.heap.size := Nat.lt_of_lt_of_le hgs HW.out.tc.size
      have S19 := hide (tails19 x.lb x.lo x.gc x.gt x.k (cntTo s s.length) (Sais.atL s e0 n) wr hk HW.out.bp HW.out.cn HW.out.at_ (by rw [sum_head]; have := head_le s x.k; have := HN.out; omega) HW.out.lv HO.out.d7.symm HO.out.d6.symm)
      clear hlt
      go_wp2_with fail
      refine (S19.out).mono ?_
      rintro e w6 ⟨rfl, hr1, ht1⟩
      have W6 : Hid (IW s x f0 (fun i => .int .i32 (Sais.c s i : Nat)) w (Sais.specS s e0 A0 n) (Sais.atS s e0 n) w6) := by
        refine (HW.out.newT HO.out (hr1.congr (fun a _ => by rw [sum_tail])) ht1 hgs2).congr (fun y hy => ?_) (fun a _ => ?_)
        · have := Sais.specS_top (A0 := A0) HH.out hy
          rw [HN.out] at this; exact this
        · have := Sais.atS_top HH.out a
          rw [HN.out] at this; exact this
      clear hr1 ht1 S19 HW hgs2
      go_wp2
      go_loopw [12] (fun v wr => ∃ i : Nat, i ≤ n ∧ v = .int .i64 ((i : Int) - 1) ∧ IW s x f0 (fun i => .int .i32 (Sais.c s i : Nat)) w (Sais.specS s e0 A0 i) (Sais.atS s e0 i) wr) (fun v _ => (intOf v + 1).toNat)
      case atStart => exact ⟨n, Nat.le_refl _, rfl, W6.out⟩
      case round =>
        clear W6
        obtain ⟨i, hi2, rfl, hW⟩ := hrel
        have HW := hide hW
        clear hW
        by_cases hi0 : i = 0
        · subst hi0
          have N : Hid (IW s x f0 (fun i => .int .i32 (Sais.c s i : Nat)) w (fun y => (Sais.ux s e0 y : Int)) (Sais.atS s e0 0) wr) := HW.out.congr (fun y _ => (Sais.specS_zero HH.out).symm) (fun _ _ => rfl)
          clear HW
          go_wp2
          go_end0
          exact ⟨rfl, _, N.out⟩
        obtain ⟨i, rfl⟩ : ∃ i', i = i' + 1 := ⟨i - 1, by omega⟩
        have ei : (((i + 1 : Nat) : Int) - 1) = (i : Int) := by omega
        rw [ei]
        clear ei hi0
        have ca1 := HW.out.cellA HO.out (i := i) (by rw [HN.out]; omega)
        have hiN : (i : Int) < (n : Int) := by omega
        rcases Sais.roundS (A0 := A0) HH.out (i := i) (by rw [HN.out]; omega) with ⟨j, v1, v2, v3, v4, v4b, v5, v6⟩ | ⟨v1, v3, v4⟩
        · rw [HN.out] at v2 v4b
          have cj := HK.out j (by rw [HN.out]; exact v2)
          have ca2 := HW.out.sm.cell (i := j) (by rw [HN.out]; exact v2)
          have ca3 := HW.out.sy j (by rw [HN.out]; exact v2)
          have ca4 := HW.out.bp.p1
          have ca5 := HW.out.at_.cell cj
          have ca6 := HW.out.at_.frozen (Sais.c s j)
          obtain ⟨t, ht⟩ : ∃ t, Sais.atS s e0 (i + 1) (Sais.c s j) = t + 1 := ⟨Sais.atS s e0 (i + 1) (Sais.c s j) - 1, by omega⟩
          rw [ht] at v4 v4b ca5
          have N1 : Hid (IW s x f0 (fun i => .int .i32 (Sais.c s i : Nat)) w (Sais.specS s e0 A0 (i + 1)) (Sais.atS s e0 i) (wr.setCell ⟨x.gt, Sais.c s j, none⟩ (.int .i32 (t : Nat))).drew) := by
            refine (HW.out.setT HO.out _ _ (fun b hb => ?_)).drew
            rw [v6]
            by_cases e : b = Sais.c s j
            · rw [if_pos e, if_pos e, e, ht]; rfl
            · rw [if_neg e, if_neg e]
          rw [v1] at ca1
          rw [v3] at ca2
          obtain ⟨W5, hW5⟩ : ∃ W5, (wr.setCell ⟨x.gt, Sais.c s j, none⟩ (.int .i32 (t : Nat))).drew = W5 := ⟨_, rfl⟩
          rw [hW5] at N1
          have cb4 := N1.out.bp.p1
          have cb3 := N1.out.sy j (by rw [HN.out]; exact v2)
          have cb5 := N1.out.at_.cell cj
          have cb5' : W5.cell? ⟨x.gt, Sais.c s j, none⟩ = some (.int .i32 (t : Nat)) := by
            rw [v6, if_pos rfl, ht] at cb5; exact cb5
          have cb6 := N1.out.cellA HO.out (i := t) (by rw [HN.out]; omega)
          have cb7 := N1.out.sa.frozen (x.oa + t)
          have N2 : Hid (IW s x f0 (fun i => .int .i32 (Sais.c s i : Nat)) w (Sais.specS s e0 A0 i) (Sais.atS s e0 i) (W5.setCell ⟨x.ga, x.oa + t, none⟩ (.int .i32 (j : Int))).drew) := by
            refine (N1.out.setA HO.out (by rw [HN.out]; omega) _ (fun y hy => ?_)).drew
            rw [v5 y hy, ht]; rfl
          obtain ⟨ch2, hch2⟩ : ∃ t, Sais.c s j = t := ⟨_, rfl⟩
          rw [hch2] at cj ca3 ca5 ca6 cb3 cb5' hW5
          have ej : ((j : Int) + 1 - 1) = (j : Int) := by omega
          have et : ((t : Int) + 1 - 1) = (t : Int) := by omega
          have eb1 : (t : Int) < (n : Int) := by omega
          have eb2 : (j : Int) < (n : Int) := by omega
          have eb3 : (ch2 : Int) < (x.k : Int) := by omega
          clear v5 v6 N1 hch2 HW v1 ht cb5
          go_wp2
          go_region
          go_wp2
          go_region
          go_wp2
          go_roundw
          case rel => exact ⟨i, by omega, by go_num, N2.out⟩
          case measure => simp [intOf]
        · have N2 : Hid (IW s x f0 (fun i => .int .i32 (Sais.c s i : Nat)) w (Sais.specS s e0 A0 i) (Sais.atS s e0 i) wr) := HW.out.congr v3 (fun a _ => v4 a)
          obtain ⟨V, hV⟩ : ∃ V, Sais.specS s e0 A0 (i + 1) i = V := ⟨_, rfl⟩
          rw [hV] at ca1 v1
          clear v3 v4 hV
          rcases v1 with rfl | ⟨j, rfl, v5, v6⟩
          · clear HW
            go_wp2
            go_roundw
            case rel => exact ⟨i, by omega, by go_num, N2.out⟩
            case measure => simp [intOf]
          · rw [HN.out] at v5
            have ca2 := HW.out.sm.cell (i := j) (by rw [HN.out]; exact v5)
            rw [v6] at ca2
            have ej : ((j : Int) + 1 - 1) = (j : Int) := by omega
            clear HW
            go_wp2
            go_roundw
            case rel => exact ⟨i, by omega, by go_num, N2.out⟩
            case measure => simp [intOf]
    have ca1 := HW.out.cellA HO.out (i := i) (by rw [HN.out]; exact hlt)
    rcases Sais.roundL HH.out HL.out (i := i) (by rw [HN.out]; exact hlt) with ⟨j, v1, v2, v3, v4, v5, v6⟩ | ⟨v1, v2, v3, v4⟩
    · rw [HN.out] at v2 v4
      have cj := HK.out j (by rw [HN.out]; exact v2)
      have ca2 := HW.out.sm.cell (i := j) (by rw [HN.out]; exact v2)
      have ca3 := HW.out.sy j (by rw [HN.out]; exact v2)
      have ca4 := HW.out.bp.p1
      have ca5 := HW.out.at_.cell cj
      have ca6 := HW.out.cellA HO.out (i := Sais.atL s e0 i (Sais.c s j)) (by rw [HN.out]; exact v4)
      have ca7 := HW.out.sa.frozen (x.oa + Sais.atL s e0 i (Sais.c s j))
      have N1 : Hid (IW s x f0 (fun i => .int .i32 (Sais.c s i : Nat)) w (Sais.specL s e0 A0 (i + 1)) (Sais.atL s e0 i) (wr.setCell ⟨x.ga, x.oa + Sais.atL s e0 i (Sais.c s j), none⟩ (.int .i32 (j : Int))).drew) :=
        (HW.out.setA HO.out (by rw [HN.out]; exact v4) _ v5).drew
      rw [v1] at ca1
      rw [v3] at ca2
      obtain ⟨W5, hW5⟩ : ∃ W5, (wr.setCell ⟨x.ga, x.oa + Sais.atL s e0 i (Sais.c s j), none⟩ (.int .i32 (j : Int))).drew = W5 := ⟨_, rfl⟩
      rw [hW5] at N1
      have cb4 := N1.out.bp.p1
      have cb3 := N1.out.sy j (by rw [HN.out]; exact v2)
      have cb5 := N1.out.at_.cell cj
      have cb6 := N1.out.at_.frozen (Sais.c s j)
      have N2 : Hid (IW s x f0 (fun i => .int .i32 (Sais.c s i : Nat)) w (Sais.specL s e0 A0 (i + 1)) (Sais.atL s e0 (i + 1)) (W5.setCell ⟨x.gt, Sais.c s j, none⟩ (.int .i32 ((Sais.atL s e0 i (Sais.c s j) + 1 : Nat) : Int))).drew) := by
        refine (N1.out.setT HO.out _ _ (fun b hb => ?_)).drew
        rw [v6]
        by_cases e : b = Sais.c s j
        · rw [if_pos e, if_pos e, e]
        · rw [if_neg e, if_neg e]
      rw [show ((Sais.atL s e0 i (Sais.c s j) + 1 : Nat) : Int) = (Sais.atL s e0 i (Sais.c s j) : Int) + 1 from rfl] at N2
      obtain ⟨at_, hat⟩ : ∃ t, Sais.atL s e0 i (Sais.c s j) = t := ⟨_, rfl⟩
      rw [hat] at ca5 ca6 ca7 hW5 cb5 N2 v4
      obtain ⟨ch2, hch2⟩ : ∃ t, Sais.c s j = t := ⟨_, rfl⟩
      rw [hch2] at cj ca3 ca5 cb3 cb5 cb6 N2
      have ej : ((j : Int) + 1 - 1) = (j : Int) := by omega
      have eb1 : (at_ : Int) < (n : Int) := by omega
      have eb2 : (j : Int) < (n : Int) := by omega
      have eb3 : (ch2 : Int) < (x.k : Int) := by omega
      clear v5 v6 N1 hat hch2 HW v1
      go_wp2
      go_region
      go_wp2
      go_region
      go_wp2
      go_roundw
      case rel => exact ⟨i + 1, by omega, by go_num, N2.out⟩
      case measure => simp [intOf]; omega
    · have N2 : Hid (IW s x f0 (fun i => .int .i32 (Sais.c s i : Nat)) w (Sais.specL s e0 A0 (i + 1)) (Sais.atL s e0 (i + 1)) wr) := HW.out.congr v3 (fun a _ => v4 a)
      obtain ⟨V, hV⟩ : ∃ V, Sais.specL s e0 A0 i i = V := ⟨_, rfl⟩
      rw [hV] at ca1 v1 v2
      clear v3 v4 hV
      rcases v1 with v1 | ⟨j, rfl, v5, v6⟩
      · have d1 : decide ((0 : Int) ≤ V - 1) = false := by simp; omega
        clear HW
        go_wp2
        go_roundw
        case rel => exact ⟨i + 1, by omega, by go_num, N2.out⟩
        case measure => simp [intOf]; omega
      · rw [HN.out] at v5
        have ca2 := HW.out.sm.cell (i := j) (by rw [HN.out]; exact v5)
        rw [v6] at ca2
        have ej : ((j : Int) + 1 - 1) = (j : Int) := by omega
        clear HW
        go_wp2
        go_roundw
        case rel => exact ⟨i + 1, by omega, by go_num, N2.out⟩
        case measure => simp [intOf]; omega
end Go.Proofs.Qxb6606288a
