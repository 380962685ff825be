/-
  What each loop of sortSuffixes keeps, in plain words. Not trusted: the kernel checks it.
-/
import Derived.Test.Qxb6606288aSufF
namespace Go.Proofs.Qxb6606288a.Sais
set_option linter.unusedVariables false
variable {s : List Nat}

theorem nd_inj {l : List Nat} (h : l.Nodup) {i j : Nat} {hi : i < l.length} {hj : j < l.length} (e : l[i] = l[j]) : i = j := by
  have h1 := h.idxOf_getElem i hi
  rw [e, h.idxOf_getElem j hj] at h1
  exact h1.symm
theorem filter_at (L : List Nat) (p : Nat → Bool) (i x : Nat) (h : L[i]? = some x) (hp : p x = true) : (L.filter p)[(L.take i).countP p]? = some x := by
  obtain ⟨hi, rfl⟩ := List.getElem?_eq_some_iff.1 h
  have e : L = L.take i ++ L[i] :: L.drop (i + 1) := by
    rw [← List.drop_eq_getElem_cons hi, List.take_append_drop]
  have e2 : L.filter p = (L.take i).filter p ++ L[i] :: (L.drop (i + 1)).filter p := by
    conv => lhs; rw [e]
    rw [List.filter_append, List.filter_cons_of_pos hp]
  rw [e2, List.countP_eq_length_filter, List.getElem?_append_right (Nat.le_refl _)]
  simp

/-- LMS positions below j -/
def tl (s : List Nat) (j : Nat) : Nat := (List.range j).countP (fun i => lms s i)
theorem tl_zero : tl s 0 = 0 := rfl
theorem tl_yes {j : Nat} (h : lms s j = true) : tl s (j + 1) = tl s j + 1 := by
  unfold tl; rw [List.range_succ, List.countP_append]; simp [h]
theorem tl_no {j : Nat} (h : lms s j = false) : tl s (j + 1) = tl s j := by
  unfold tl; rw [List.range_succ, List.countP_append]; simp [h]
theorem tl_end : ∀ (d : Nat), tl s (s.length + d) = (P1 s).length
  | 0 => by unfold tl P1; rw [List.countP_eq_length_filter]; rfl
  | d + 1 => by
    rw [← Nat.add_assoc, tl_no, tl_end d]
    by_cases h : lms s (s.length + d) = true
    · have := lms_lt h; omega
    · simpa using h
theorem tl_ge {j : Nat} (h : s.length ≤ j) : tl s j = (P1 s).length := by
  have := tl_end (s := s) (j - s.length)
  rwa [show s.length + (j - s.length) = j by omega] at this
theorem tl_at {j : Nat} (h : lms s j = true) : (P1 s)[tl s j]? = some j := by
  have hl := lms_lt h
  have h1 := filter_at (List.range s.length) (fun i => lms s i) j j (by rw [List.getElem?_range (by omega)]) h
  rw [List.take_range, Nat.min_eq_left (by omega)] at h1
  exact h1
theorem tl_lt {j : Nat} (h : lms s j = true) : tl s j < (P1 s).length := (List.getElem?_eq_some_iff.1 (tl_at h)).1
theorem tl_pair (i : Nat) : (∃ u, lms s u = true ∧ u / 2 = i ∧ tl s (2 * (i + 1)) = tl s (2 * i) + 1 ∧ (P1 s)[tl s (2 * i)]? = some u) ∨ ((∀ u, lms s u = true → u / 2 ≠ i) ∧ tl s (2 * (i + 1)) = tl s (2 * i)) := by
  have e : 2 * (i + 1) = 2 * i + 1 + 1 := by omega
  rw [e]
  by_cases h1 : lms s (2 * i) = true
  · have h2 := lms_apart h1
    exact .inl ⟨2 * i, h1, by omega, by rw [tl_no h2, tl_yes h1], tl_at h1⟩
  · have h1' : lms s (2 * i) = false := by simpa using h1
    by_cases h2 : lms s (2 * i + 1) = true
    · refine .inl ⟨2 * i + 1, h2, by omega, by rw [tl_yes h2, tl_no h1'], ?_⟩
      have := tl_at h2
      rw [tl_no h1'] at this; exact this
    · have h2' : lms s (2 * i + 1) = false := by simpa using h2
      refine .inr ⟨fun u hu hh => ?_, by rw [tl_no h2', tl_no h1']⟩
      have : u = 2 * i ∨ u = 2 * i + 1 := by omega
      rcases this with rfl | rfl
      · exact h1 hu
      · exact h2 hu
theorem tl_grow (i : Nat) : ∀ d, tl s (2 * (i + d)) ≤ tl s (2 * i) + d
  | 0 => Nat.le_refl _
  | d + 1 => by
    have h1 := tl_grow i d
    have h2 : tl s (2 * (i + d + 1)) ≤ tl s (2 * (i + d)) + 1 := by
      rcases tl_pair (s := s) (i + d) with ⟨_, _, _, h, _⟩ | ⟨_, h⟩ <;> omega
    rw [← Nat.add_assoc]; omega
theorem tl_room {i : Nat} (hi : i ≤ s.length - (P1 s).length) : (P1 s).length + i ≤ s.length - (P1 s).length + tl s (2 * i) := by
  have h := P1_half (s := s)
  have h1 := tl_grow (s := s) i (s.length - (P1 s).length - i)
  rw [show i + (s.length - (P1 s).length - i) = s.length - (P1 s).length by omega, tl_ge (by omega)] at h1
  omega

/-! ### laid from the last to the first -/
structure LayR (s P : List Nat) (b t : Nat) (A : Nat → Int) : Prop where
  put : ∀ u p : Nat, t ≤ u → P[u]? = some p → A (eP s P p) = (p : Int)
  no : ∀ y, b ≤ y → y < s.length → (∀ u p : Nat, t ≤ u → P[u]? = some p → eP s P p ≠ y) → A y = -1
theorem AllL.get {P : List Nat} (h : AllL s P) {t p : Nat} (hp : P[t]? = some p) : lms s p = true := h.mem.1 (List.mem_of_getElem? hp)
theorem AllL.eP_inj {P : List Nat} (h : AllL s P) {t u p q : Nat} (hp : P[t]? = some p) (hq : P[u]? = some q) (e : eP s P p = eP s P q) : t = u := by
  have e1 := h.init.inj p q (h.get hp) (h.get hq) e
  obtain ⟨ht, h1⟩ := List.getElem?_eq_some_iff.1 hp
  obtain ⟨hu, h2⟩ := List.getElem?_eq_some_iff.1 hq
  exact nd_inj h.nodup (hi := ht) (hj := hu) (by rw [h1, h2, e1])
theorem lay_T {P : List Nat} (h : AllL s P) {t p : Nat} (hp : P[t]? = some p) :
    tail s (c s p) - cP s P (t + 1) (c s p) = eP s P p + 1 ∧ eP s P p < s.length ∧ ∀ a, tail s a - cP s P t a = if a = c s p then eP s P p else tail s a - cP s P (t + 1) a := by
  have h1 := eP_at (s := s) P h.nodup t p hp
  have h2 := cP_step (s := s) hp (c s p)
  rw [if_pos rfl] at h2
  have h3 := h.cP_tail t (c s p)
  have h4 := h.init.hi p (h.get hp)
  have h5 := tail_le (s := s) (c s p)
  refine ⟨by omega, by omega, fun a => ?_⟩
  by_cases e : a = c s p
  · subst e; rw [if_pos rfl]; omega
  · rw [if_neg e, cP_step (s := s) hp a, if_neg e]; rfl
theorem LayR.step {P : List Nat} (h : AllL s P) {b t p : Nat} {A A' : Nat → Int} (H : LayR s P b (t + 1) A) (hp : P[t]? = some p) (hA : ∀ y, y < s.length → A' y = if y = eP s P p then (p : Int) else A y) : LayR s P b t A' := by
  have hlt : ∀ {u q}, P[u]? = some q → eP s P q < s.length := fun hq => (lay_T h hq).2.1
  refine ⟨fun u q hu hq => ?_, fun y hb hy hno => ?_⟩
  · rw [hA _ (hlt hq)]
    by_cases e : u = t
    · subst e; rw [hp] at hq; cases hq; rw [if_pos rfl]
    · rw [if_neg (fun e2 => e (h.eP_inj hq hp e2))]
      exact H.put u q (by omega) hq
  · rw [hA y hy, if_neg (fun e => hno t p (Nat.le_refl _) hp e.symm)]
    exact H.no y hb hy (fun u q hu hq => hno u q (by omega) hq)
theorem LayR.step2 {P : List Nat} (h : AllL s P) (hs : P.Pairwise (lt s)) {t p : Nat} {A A' : Nat → Int} (H : LayR s P (t + 1) (t + 1) A) (hp : P[t]? = some p) (hA : ∀ y, y < s.length → A' y = if y = eP s P p then (p : Int) else if y = t then -1 else A y) : LayR s P t t A' := by
  have hlt : ∀ {u q}, P[u]? = some q → eP s P q < s.length := fun hq => (lay_T h hq).2.1
  refine ⟨fun u q hu hq => ?_, fun y hb hy hno => ?_⟩
  · rw [hA _ (hlt hq)]
    by_cases e : u = t
    · subst e; rw [hp] at hq; cases hq; rw [if_pos rfl]
    · have := h.eP_ge hs hq
      rw [if_neg (fun e2 => e (h.eP_inj hq hp e2)), if_neg (by omega)]
      exact H.put u q (by omega) hq
  · rw [hA y hy, if_neg (fun e => hno t p (Nat.le_refl _) hp e.symm)]
    by_cases e : y = t
    · rw [if_pos e]
    · rw [if_neg e]
      exact H.no y (by omega) hy (fun u q hu hq => hno u q (by omega) hq)
theorem LayR.laid {P : List Nat} (h : AllL s P) {A : Nat → Int} (H : LayR s P 0 0 A) : Laid s (eP s P) A := by
  refine ⟨fun u hu => ?_, fun y hy hno => H.no y (Nat.zero_le _) hy (fun u p _ hp => hno p (h.get hp))⟩
  obtain ⟨t, ht, e⟩ := List.mem_iff_getElem.1 (h.mem.2 hu)
  exact H.put t u (Nat.zero_le _) (by rw [List.getElem?_eq_getElem ht, e])
theorem LayR.start {P : List Nat} {b : Nat} {A : Nat → Int} (h : ∀ y, b ≤ y → y < s.length → A y = -1) {t : Nat} (ht : P.length ≤ t) : LayR s P b t A :=
  ⟨fun u p hu hp => absurd (List.getElem?_eq_some_iff.1 hp).1 (by omega), fun y hb hy _ => h y hb hy⟩

/-! ### the LMS positions, in the order of their substrings, to the front -/
def fl (s : List Nat) (i : Nat) : Nat := ((U s (eP s (P1 s))).take i).countP (fun i => lms s i)
theorem fl_le (i : Nat) : fl s i ≤ i := by
  unfold fl
  have h := List.countP_le_length (p := fun i => lms s i) (l := (U s (eP s (P1 s))).take i)
  rw [List.length_take] at h; omega
theorem fl_end : fl s s.length = (P1 s).length := by
  unfold fl
  rw [List.take_of_length_le (by rw [U_len]; exact Nat.le_refl _), List.countP_eq_length_filter]
  exact R1_len
theorem fl_succ {i : Nat} (hi : i < s.length) : fl s (i + 1) = fl s i + if lms s (ux s (eP s (P1 s)) i) = true then 1 else 0 := by
  unfold fl
  have hx := ux_get (e0 := eP s (P1 s)) hi
  rw [List.take_add_one, hx, List.countP_append]
  simp
theorem R1_at {i : Nat} (hi : i < s.length) (h : lms s (ux s (eP s (P1 s)) i) = true) : (R1 s)[fl s i]? = some (ux s (eP s (P1 s)) i) :=
  filter_at _ _ i _ (ux_get hi) h
theorem R1_get {i : Nat} (hi : i < (P1 s).length) : lms s ((R1 s).getD i 0) = true := by
  have h : i < (R1 s).length := by rw [R1_len]; exact hi
  rw [getD_get h]; exact R1_mem.1 (List.getElem_mem h)
theorem R1_inj {i j : Nat} (hi : i < (P1 s).length) (hj : j < (P1 s).length) (h : (R1 s).getD i 0 = (R1 s).getD j 0) : i = j := by
  have h1 : i < (R1 s).length := by rw [R1_len]; exact hi
  have h2 : j < (R1 s).length := by rw [R1_len]; exact hj
  rw [getD_get h1, getD_get h2] at h
  exact nd_inj R1_nodup h

/-! ### the ranks by position -/
structure RKr (s : List Nat) (i : Nat) (A : Nat → Int) : Prop where
  fr : ∀ y, y < (P1 s).length → A y = ((R1 s).getD y 0 : Nat)
  put : ∀ j, j < i → A ((P1 s).length + (R1 s).getD j 0 / 2) = (rkf s (R1 s) j : Nat)
  no : ∀ q, q < s.length - (P1 s).length → (∀ j, j < i → (R1 s).getD j 0 / 2 ≠ q) → A ((P1 s).length + q) = -1
theorem RKr.step {i : Nat} {A A' : Nat → Int} (H : RKr s i A) (hi : i < (P1 s).length) (hA : ∀ y, y < s.length → A' y = if y = (P1 s).length + (R1 s).getD i 0 / 2 then ((rkf s (R1 s) i : Nat) : Int) else A y) : RKr s (i + 1) A' := by
  have hm := P1_half (s := s)
  have hb : ∀ j, j < (P1 s).length → (P1 s).length + (R1 s).getD j 0 / 2 < s.length := fun j hj => by have := half_lt (R1_get hj); omega
  refine ⟨fun y hy => ?_, fun j hj => ?_, fun q hq hno => ?_⟩
  · rw [hA y (by omega), if_neg (by omega)]; exact H.fr y hy
  · rw [hA _ (hb j (by omega))]
    by_cases e : j = i
    · subst e; rw [if_pos rfl]
    · rw [if_neg (fun e2 => e (R1_inj (by omega) hi (half_inj (R1_get (by omega)) (R1_get hi) (by omega))))]
      exact H.put j (by omega)
  · rw [hA _ (by omega), if_neg (fun e => hno i (by omega) (by omega))]
    exact H.no q hq (fun j hj => hno j (by omega))

structure PKr (s : List Nat) (i : Nat) (A : Nat → Int) : Prop where
  put : ∀ u, lms s u = true → u / 2 < i → A ((P1 s).length + u / 2) = (rankOf s u : Nat)
  no : ∀ q, q < i → (∀ u, lms s u = true → u / 2 ≠ q) → A ((P1 s).length + q) = -1
  red : ∀ t, tl s (2 * i) ≤ t → t < (P1 s).length → A (s.length - (P1 s).length + t) = (c (red s) t : Nat)
theorem RKr.pack {A : Nat → Int} (H : RKr s (P1 s).length A) : PKr s (s.length - (P1 s).length) A := by
  have hm := P1_half (s := s)
  refine ⟨fun u hu _ => ?_, fun q hq hno => H.no q hq (fun j hj => hno _ (R1_get hj)), fun t ht h2 => ?_⟩
  · obtain ⟨i, hi, e, hr⟩ := rank_get hu
    have := H.put i (by rw [← R1_len]; exact hi)
    rw [getD_get hi, e] at this
    rw [this, hr]
  · rw [tl_ge (by omega)] at ht; omega
/-- one round of the packing -/
theorem PKr.round {i : Nat} {A : Nat → Int} (H : PKr s (i + 1) A) (hi : i < s.length - (P1 s).length) :
    (∃ r : Nat, A ((P1 s).length + i) = (r : Int) ∧ tl s (2 * (i + 1)) = tl s (2 * i) + 1 ∧ tl s (2 * i) < (P1 s).length ∧ ∀ A' : Nat → Int, (∀ y, y < s.length → A' y = if y = s.length - (P1 s).length + tl s (2 * i) then (r : Int) else A y) → PKr s i A') ∨
    (A ((P1 s).length + i) = -1 ∧ tl s (2 * (i + 1)) = tl s (2 * i) ∧ PKr s i A) := by
  have hm := P1_half (s := s)
  have hroom := tl_room (s := s) (i := i) (by omega)
  rcases tl_pair (s := s) i with ⟨u, h1, h2, h3, h4⟩ | ⟨h1, h2⟩
  · left
    obtain ⟨h5, h6⟩ := List.getElem?_eq_some_iff.1 h4
    refine ⟨rankOf s u, by rw [← h2]; exact H.put u h1 (by omega), h3, h5, fun A' hA => ⟨fun v hv hlt => ?_, fun q hq hno => ?_, fun t ht htm => ?_⟩⟩
    · rw [hA _ (by omega), if_neg (by omega)]; exact H.put v hv (by omega)
    · rw [hA _ (by omega), if_neg (by omega)]; exact H.no q (by omega) hno
    · rw [hA _ (by omega)]
      by_cases e : t = tl s (2 * i)
      · subst e; rw [if_pos rfl, red_c h5, h6]
      · rw [if_neg (by omega)]; exact H.red t (by omega) htm
  · right
    refine ⟨H.no i (by omega) h1, h2, fun v hv hlt => H.put v hv (by omega), fun q hq hno => H.no q (by omega) hno, fun t ht htm => H.red t (by omega) htm⟩

/-! ### each rank once -/
theorem red_sur (hm : 0 < (P1 s).length) (h : rkf s (R1 s) ((P1 s).length - 1) + 1 = (P1 s).length) {r : Nat} (hr : r < (P1 s).length) : ∃ i, i < (P1 s).length ∧ c (red s) i = r := by
  have hr' : r < (R1 s).length := by rw [R1_len]; exact hr
  have g := R1_mem.1 (List.getElem_mem hr')
  obtain ⟨i, hi, e⟩ := List.mem_iff_getElem.1 (P1_mem.2 g)
  exact ⟨i, hi, by rw [red_c hi, e, rank_at hr', rank_full hm h hr]⟩
theorem red_inj (hm : 0 < (P1 s).length) (h : rkf s (R1 s) ((P1 s).length - 1) + 1 = (P1 s).length) {i j : Nat} (hi : i < (P1 s).length) (hj : j < (P1 s).length) (e : c (red s) i = c (red s) j) : i = j := by
  rw [red_c hi, red_c hj] at e
  obtain ⟨a, ha, ea, ra⟩ := rank_get (P1_get hi)
  obtain ⟨b, hb, eb, rb⟩ := rank_get (P1_get hj)
  rw [R1_len] at ha hb
  rw [ra, rb, rank_full hm h ha, rank_full hm h hb] at e
  subst e
  exact nd_inj P1_nodup (ea.symm.trans eb)
/-- the order out of the ranks, where each is there once (or there are none) -/
theorem order_of (hfull : 0 < (P1 s).length → rkf s (R1 s) ((P1 s).length - 1) + 1 = (P1 s).length) (A : Nat → Int) (hA : ∀ i, i < (P1 s).length → A (c (red s) i) = (i : Nat)) :
    ∃ O, IsSA (red s) O ∧ ∀ y, y < (P1 s).length → A y = (O.getD y 0 : Nat) := by
  by_cases hm : 0 < (P1 s).length
  · refine ⟨_, full_order hm (hfull hm) (fun r => (A r).toNat) (fun i hi => by simp [hA i hi]), fun y hy => ?_⟩
    obtain ⟨i, hi, rfl⟩ := red_sur hm (hfull hm) hy
    rw [getD_get (by simp; exact hy)]
    simp [hA i hi]
  · have e : red s = [] := List.eq_nil_of_length_eq_zero (by rw [red_len]; omega)
    exact ⟨[], by rw [e]; exact ⟨by simp, List.Pairwise.nil⟩, fun y hy => by omega⟩
theorem IsSA.len {s l : List Nat} (h : IsSA s l) : l.length = s.length := by rw [h.1.length_eq, List.length_range]
theorem IsSA.lt' {s l : List Nat} (h : IsSA s l) {y : Nat} (hy : y < s.length) : l.getD y 0 < s.length := by
  have hy' : y < l.length := by rw [h.len]; exact hy
  rw [getD_get hy']
  exact List.mem_range.1 (h.1.mem_iff.1 (List.getElem_mem hy'))
end Go.Proofs.Qxb6606288a.Sais
