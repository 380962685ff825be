/-
  The levels of the sorter: one appended; joined again. Not trusted: the kernel checks it.
-/
import Derived.Test.Qxb6606288aWalkD
import Derived.ArgAppend
namespace Go.Proofs.Qxb6606288a
open Go.RowKit Go.Deep
set_option linter.unusedVariables false

def zl : Value := .slice none 0 0
theorem Try.info50 : (Try.prog.info? 50).map (fun i => (i.zero, i.size, i.bytes)) = some (some (.agg #[zl, zl, zl]), 3, 72) := by kernel_rfl

/-- the levels: what may lie behind the empty slice -/
def LVp (w : World) (la : Option Addr) (lc : Nat) : Prop := lc = 0 ∨ ∃ lb lo NL F, la = some ⟨lb, lo, none⟩ ∧ w.rowIs lb 50 NL F ∧ lo + 3 * lc = NL ∧ lc ≤ maxLen ∧ ∀ y, y < NL → (F y).oneCell' = true

/-- the row of levels that is really there -/
def lu (la : Option Addr) (lc : Nat) : Option Addr := if lc = 0 then none else la
/-- behind the append of one level -/
def LVa (w : World) (la : Option Addr) (lb l0 lc NL : Nat) (F : Nat → Value) (w' : World) : Prop :=
  w'.rowIs lb 50 NL F ∧ (∀ y, y < NL → (F y).oneCell' = true) ∧ F l0 = zl ∧ F (l0 + 1) = zl ∧ F (l0 + 2) = zl ∧ l0 + 3 * lc = NL ∧ 1 ≤ lc ∧ lc ≤ maxLen ∧ Touch (fun b => ∃ o, la = some ⟨b, o, none⟩) w w' ∧
    ((w.heap.size ≤ lb ∧ la = none) ∨ (la = some ⟨lb, l0, none⟩ ∧ ∃ F0, w.rowIs lb 50 NL F0 ∧ ∀ y, y < l0 → F y = F0 y))

theorem zeros3 (m : Nat) : (Builtin.zeroCells (Value.agg #[zl, zl, zl]).cells m).size = 3 * m ∧ ∀ i, i < 3 * m → (Builtin.zeroCells (Value.agg #[zl, zl, zl]).cells m)[i]? = some zl := by
  have hc : (Value.agg #[zl, zl, zl]).cells = #[zl, zl, zl] := rfl
  rw [hc]
  unfold Builtin.zeroCells
  refine ⟨by simp; omega, fun i hi => ?_⟩
  have h3 : i % 3 < 3 := Nat.mod_lt _ (by omega)
  have e : ([zl, zl, zl] : List Value)[i % 3]?.getD default = zl := by
    match i % 3, h3 with
    | 0, _ => rfl
    | 1, _ => rfl
    | 2, _ => rfl
  have hsz : (#[zl, zl, zl] : Array Value).size = 3 := rfl
  rw [hsz, Array.getElem?_map]
  simp [show i < m * 3 by omega]
  exact e

theorem lev_run (w : World) (ty : TypeId) (la : Option Addr) (lc nb : Nat) (hl : LVp w la lc) (hnb : ∀ j, j < 3 → w.cell? ⟨nb, j, none⟩ = some zl) (hlm : ∀ a, la = some a → a.spot = none) (hn0 : la = none → lc = 0) :
    ∃ (lb l0 lc' NL : Nat) (F : Nat → Value) (w' : World), (Builtin.append_ #[26, 26] ty #[.slice la 0 lc, .slice (some ⟨nb, 0, none⟩) 1 1]).run Try.prog w = .ok (.slice (some ⟨lb, l0, none⟩) 1 lc') w' ∧ LVa w (lu la lc) lb l0 lc' NL F w' := by
  obtain ⟨i, hi, hzz⟩ := Option.map_eq_some_iff.1 Try.info50
  simp only [Prod.mk.injEq] at hzz
  obtain ⟨hz, hs, hb⟩ := hzz
  have hnews : ∀ j v, ([zl, zl, zl] : List Value)[j]? = some v → w.cell? ((⟨nb, 0, none⟩ : Addr).add j) = some v := by
    intro j v h
    have hj : j < 3 := by have := (List.getElem?_eq_some_iff.1 h).1; simpa using this
    have hv : v = zl := by
      match j, hj with
      | 0, _ => simpa using h.symm
      | 1, _ => simpa using h.symm
      | 2, _ => simpa using h.symm
    rw [Addr.add_lit, Nat.zero_add, hv]; exact hnb j hj
  by_cases hlc : lc = 0
  · subst hlc
    have key : ∃ C, 1 ≤ C ∧ C ≤ maxLen ∧ (Builtin.append_ #[26, 26] ty #[.slice la 0 0, .slice (some ⟨nb, 0, none⟩) 1 1]).run Try.prog w = .ok (.slice (some ⟨w.heap.size, 0, none⟩) 1 C) (w.drew.alloc (.cells (#[zl, zl, zl] ++ Builtin.zeroCells (Value.agg #[zl, zl, zl]).cells (C - 1)) 50)) := by
      cases la with
      | none =>
        have hr := run_append_nil (P := Try.prog) w 26 ty 50 i (.agg #[zl, zl, zl]) Try.underlying26 hi hz ⟨nb, 0, none⟩ 1 1 [zl, zl, zl] (by rw [hs]; rfl) hnews (by omega) (by omega) (by rw [hb]; omega)
        exact ⟨_, grownCap_ge w 1 0 50, grownCap_le_maxLen w 1 0 50 (by unfold maxLen; omega), hr⟩
      | some a =>
        have hr := run_append_grow (P := Try.prog) w 26 ty 50 i (.agg #[zl, zl, zl]) Try.underlying26 hi hz a 0 0 [] (by simp) (by simp) ⟨nb, 0, none⟩ 1 1 [zl, zl, zl] (by rw [hs]; rfl) hnews (by omega) (by omega) (by rw [hb]; decide)
        simp only [Nat.zero_add] at hr
        refine ⟨_, grownCap_ge w 1 0 50, grownCap_le_maxLen w 1 0 50 (by unfold maxLen; omega), ?_⟩
        rw [hr]; simp
    obtain ⟨C, hC1, hC2, hr⟩ := key
    obtain ⟨z1, z2⟩ := zeros3 (C - 1)
    refine ⟨w.heap.size, 0, C, 3 * C, fun _ => zl, _, hr, ⟨_, heap_alloc_new w.drew _, ?_, fun j hj => ?_⟩, fun _ _ => rfl, rfl, rfl, rfl, by omega, hC1, hC2, ((Touch.refl _ w).drew).alloc _, .inl ⟨Nat.le_refl _, by simp [lu]⟩⟩
    · rw [Array.size_append, z1]; simp; omega
    · rw [Array.getElem?_append]
      split
      · rename_i h
        match j, h with
        | 0, _ => rfl
        | 1, _ => rfl
        | 2, _ => rfl
      · rename_i h
        exact z2 _ (by simp at h ⊢; omega)
  · rcases hl with hl | ⟨lb, lo, NL, F, rfl, hR, hNL, hlm2, hone⟩
    · exact absurd hl hlc
    · have hlu : lu (some ⟨lb, lo, none⟩) lc = some ⟨lb, lo, none⟩ := by unfold lu; rw [if_neg hlc]
      rw [hlu]
      have hr := run_append_room_cells (P := Try.prog) w 26 ty 50 i Try.underlying26 hi lb lo 0 lc ⟨nb, 0, none⟩ 1 1 [zl, zl, zl] (by rw [hs]; rfl) hnews (by intro u hu; simp at hu; subst hu; rfl) (by omega)
        (fun j hj => by rw [Nat.zero_mul, Nat.add_zero, hR.cell (by simp at hj; omega)]; rfl) (fun j _ => hR.frozen _)
      simp only [Nat.zero_add, Nat.zero_mul, Nat.add_zero, World.setCells] at hr
      refine ⟨lb, lo, lc, NL, _, _, hr, (((hR.set lo zl).set (lo + 1) zl).set (lo + 1 + 1) zl), fun y hy => ?_, ?_, ?_, ?_, hNL, by omega, hlm2, ?_, .inr ⟨rfl, F, hR, fun y hy => ?_⟩⟩
      · by_cases e1 : y = lo + 1 + 1
        · rw [if_pos e1]; rfl
        · rw [if_neg e1]
          by_cases e2 : y = lo + 1
          · rw [if_pos e2]; rfl
          · rw [if_neg e2]
            by_cases e3 : y = lo
            · rw [if_pos e3]; rfl
            · rw [if_neg e3]; exact hone y hy
      · simp
      · simp
      · simp
      · exact (((Touch.refl _ w).setCell (p := ⟨lb, lo, none⟩) (fun _ => ⟨lo, rfl⟩) zl).setCell (p := ⟨lb, lo + 1, none⟩) (fun _ => ⟨lo, rfl⟩) zl).setCell (p := ⟨lb, lo + 1 + 1, none⟩) (fun _ => ⟨lo, rfl⟩) zl
      · rw [if_neg (by omega), if_neg (by omega), if_neg (by omega)]

/-! ### the levels joined again -/
def LVr (w : World) (la : Option Addr) (d lc : Nat) : Prop :=
  d ≤ lc ∧ lc ≤ maxLen ∧ ∃ lb lo NL F, la = some ⟨lb, lo, none⟩ ∧ w.rowIs lb 50 NL F ∧ lo + 3 * lc = NL ∧ ∀ y, y < NL → (F y).oneCell' = true

theorem row_setCells (b : Nat) (t : TypeId) (n : Nat) : ∀ (vs : List Value) (o : Nat) (w : World) (f : Nat → Value), w.rowIs b t n f → (∀ v ∈ vs, v.oneCell' = true) → (∀ y, y < n → (f y).oneCell' = true) →
    ∃ g, (w.setCells b o vs).rowIs b t n g ∧ (∀ y, y < o → g y = f y) ∧ (∀ y, y < n → (g y).oneCell' = true) ∧ Touch (· = b) w (w.setCells b o vs)
  | [], o, w, f, h, _, h2 => ⟨f, h, fun _ _ => rfl, h2, Touch.refl _ _⟩
  | v :: vs, o, w, f, h, h1, h2 => by
    obtain ⟨g, g1, g2, g3, g4⟩ := row_setCells b t n vs (o + 1) (w.setCell ⟨b, o, none⟩ v) _ (h.set o v) (fun u hu => h1 u (List.mem_cons_of_mem _ hu)) (fun y hy => by
      by_cases e : y = o
      · rw [if_pos e]; exact h1 v (List.mem_cons_self ..)
      · rw [if_neg e]; exact h2 y hy)
    refine ⟨g, g1, fun y hy => ?_, g3, ((Touch.refl (· = b) w).setCell (p := ⟨b, o, none⟩) (fun _ => rfl) v).trans g4⟩
    rw [g2 y (by omega), if_neg (by omega)]

theorem lev_join (w : World) (ty : TypeId) (lb l0 lc NL : Nat) (F : Nat → Value) (hR : w.rowIs lb 50 NL F) (hone : ∀ y, y < NL → (F y).oneCell' = true) (hNL : l0 + 3 * lc = NL) (hlc : 1 ≤ lc) (hlm : lc ≤ maxLen) (la : Option Addr) (d c : Nat) (hd : LVr w la d c) (hd1 : 1 ≤ d) (hdm : d ≤ 100000) :
    ∃ (lb' l' c' : Nat) (F2 : Nat → Value) (w' : World), (Builtin.append_ #[26, 26] ty #[.slice (some ⟨lb, l0, none⟩) 1 lc, .slice la d c]).run Try.prog w = .ok (.slice (some ⟨lb', l', none⟩) (1 + d) c') w' ∧ LVr w' (some ⟨lb', l', none⟩) (1 + d) c' ∧
      w'.rowIs lb 50 NL F2 ∧ (∀ y, y < NL → (F2 y).oneCell' = true) ∧ (∀ y, y < l0 + 3 → F2 y = F y) ∧ Touch (· = lb) w w' ∧ ((lb' = lb ∧ l' = l0) ∨ w.heap.size ≤ lb') := by
  obtain ⟨i, hi, hzz⟩ := Option.map_eq_some_iff.1 Try.info50
  simp only [Prod.mk.injEq] at hzz
  obtain ⟨hz, hs, hb⟩ := hzz
  obtain ⟨hdc, hcm, gb, go, GN, G, rfl, hG, hGN, hGo⟩ := hd
  have hnl : ((List.range (3 * d)).map (fun j => G (go + j))).length = d * i.size := by rw [hs]; simp; omega
  have hnews : ∀ j v, ((List.range (3 * d)).map (fun j => G (go + j)))[j]? = some v → w.cell? ((⟨gb, go, none⟩ : Addr).add j) = some v := by
    intro j v h
    have hj : j < 3 * d := by have := (List.getElem?_eq_some_iff.1 h).1; simpa using this
    rw [List.getElem?_map, List.getElem?_range hj] at h
    simp at h
    rw [Addr.add_lit, hG.cell (by omega), h]
  have h1 : ∀ u ∈ (List.range (3 * d)).map (fun j => G (go + j)), u.oneCell' = true := by
    intro u hu
    obtain ⟨j, hj, rfl⟩ := List.mem_map.1 hu
    exact hGo _ (by have := List.mem_range.1 hj; omega)
  by_cases hroom : 1 + d ≤ lc
  · have hr := run_append_room_cells (P := Try.prog) w 26 ty 50 i Try.underlying26 hi lb l0 1 lc ⟨gb, go, none⟩ d c _ hnl hnews h1 hroom
      (fun j hj => by rw [hnl] at hj; rw [hR.cell (by rw [hs] at hj ⊢; omega)]; rfl) (fun j _ => hR.frozen _)
    obtain ⟨g, g1, g2, g3, g4⟩ := row_setCells lb 50 NL ((List.range (3 * d)).map (fun j => G (go + j))) (l0 + 1 * i.size) w F hR h1 hone
    exact ⟨lb, l0, lc, g, _, hr, ⟨hroom, hlm, lb, l0, NL, g, rfl, g1, hNL, g3⟩, g1, g3, fun y hy => g2 y (by rw [hs]; omega), g4, .inl ⟨rfl, rfl⟩⟩
  · have hol : ((List.range 3).map (fun j => F (l0 + j))).length = 1 * i.size := by rw [hs]; simp
    have holds : ∀ j v, ((List.range 3).map (fun j => F (l0 + j)))[j]? = some v → w.cell? ((⟨lb, l0, none⟩ : Addr).add j) = some v := by
      intro j v h
      have hj : j < 3 := by have := (List.getElem?_eq_some_iff.1 h).1; simpa using this
      rw [List.getElem?_map, List.getElem?_range hj] at h
      simp at h
      rw [Addr.add_lit, hR.cell (by omega), h]
    have hr := run_append_grow (P := Try.prog) w 26 ty 50 i (.agg #[zl, zl, zl]) Try.underlying26 hi hz ⟨lb, l0, none⟩ 1 lc _ hol holds ⟨gb, go, none⟩ d c _ hnl hnews (by omega) (by omega) (by rw [hb]; exact growslice_fits (by omega) (by omega))
    have hC1 := grownCap_ge w (1 + d) lc 50
    have hC2 : grownCap w (1 + d) lc 50 ≤ maxLen := grownCap_le_maxLen w (1 + d) lc 50 (by unfold maxLen; omega)
    obtain ⟨C, hC⟩ : ∃ C, grownCap w (1 + d) lc 50 = C := ⟨_, rfl⟩
    rw [hC] at hr hC1 hC2
    obtain ⟨z1, z2⟩ := zeros3 (C - (1 + d))
    have hrow : ∃ g, (w.drew.alloc (.cells (((List.range 3).map (fun j => F (l0 + j))).toArray ++ ((List.range (3 * d)).map (fun j => G (go + j))).toArray ++ Builtin.zeroCells (Value.agg #[zl, zl, zl]).cells (C - (1 + d))) 50)).rowIs w.heap.size 50 (3 * C) g ∧ ∀ y, y < 3 * C → (g y).oneCell' = true := by
      refine ⟨fun y => if y < 3 then F (l0 + y) else if y < 3 + 3 * d then G (go + (y - 3)) else zl, ⟨_, heap_alloc_new w.drew _, ?_, fun j hj => ?_⟩, fun y hy => ?_⟩
      · rw [Array.size_append, Array.size_append, z1]; simp; omega
      · show _ = some (if j < 3 then F (l0 + j) else if j < 3 + 3 * d then G (go + (j - 3)) else zl)
        rw [Array.getElem?_append]
        split
        · rename_i h
          simp at h
          rw [Array.getElem?_append]
          split
          · rename_i h2
            simp at h2
            rw [if_pos h2]
            simp [h2]
          · rename_i h2
            simp at h2
            rw [if_neg (show ¬ j < 3 by omega)]
            simp [show j - 3 < 3 * d by omega]
        · rename_i h
          simp at h
          rw [if_neg (show ¬ j < 3 by omega), if_neg (show ¬ j < 3 + 3 * d by omega)]
          exact z2 _ (by simp; omega)
      · by_cases e1 : y < 3
        · simp only [e1, if_true]; exact hone _ (by omega)
        · by_cases e2 : y < 3 + 3 * d
          · simp only [e1, e2, if_false, if_true]; exact hGo _ (by omega)
          · simp only [e1, e2, if_false]; rfl
    obtain ⟨g, g1, g2⟩ := hrow
    exact ⟨w.heap.size, 0, C, F, _, hr, ⟨by omega, hC2, w.heap.size, 0, 3 * C, g, rfl, g1, by omega, g2⟩, hR.drew.alloc _, hone, fun _ _ => rfl, ((Touch.refl _ w).drew).alloc _, .inr (Nat.le_refl _)⟩
end Go.Proofs.Qxb6606288a
