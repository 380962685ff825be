/-
  The two passes of induced sorting, round by round: plain. Not trusted: the kernel checks it.
-/
import Derived.Test.Qxb6606288aSufB
namespace Go.Proofs.Qxb6606288a.Sais
set_option linter.unusedVariables false

/-- the array before the two passes -/
structure Laid (s : List Nat) (e0 : Nat → Nat) (A0 : Nat → Int) : Prop where
  put : ∀ u, lms s u = true → A0 (e0 u) = (u : Int)
  no : ∀ x, x < s.length → (∀ u, lms s u = true → e0 u ≠ x) → A0 x = -1

section
variable (s : List Nat) (e0 : Nat → Nat) (A0 : Nat → Int)
def specL (i x : Nat) : Int := if sm s (ux s e0 x) = false ∧ loc s e0 (ux s e0 x + 1) ≤ i then (ux s e0 x : Int) else A0 x
def atL (i a : Nat) : Nat := head s a + cnt s (fun q => (decide (c s q = a) && !(sm s q)) && decide (loc s e0 (q + 1) ≤ i))
def specS (i x : Nat) : Int := if sm s (ux s e0 x) = true ∧ i ≤ idx s e0 (ux s e0 x + 1) then (ux s e0 x : Int) else if sm s (ux s e0 x) = false then (ux s e0 x : Int) else A0 x
def atS (i a : Nat) : Nat := tail s a - cnt s (fun q => (decide (c s q = a) && sm s q) && decide (i ≤ idx s e0 (q + 1)))
end

variable {s : List Nat} {e0 : Nat → Nat} {A0 : Nat → Int}

theorem loc_zero {u : Nat} (h : loc s e0 u = 0) : s.length ≤ u := by
  unfold loc at h
  split at h
  · assumption
  · split at h <;> omega
theorem ux_eq (H : Init s e0) {x j : Nat} (hx : x < s.length) (hj : j < s.length) : ux s e0 x = j ↔ x = idx s e0 j := by
  constructor
  · rintro rfl; exact (idx_ux H hx).symm
  · rintro rfl; exact (ux_idx H hj).2

/-! ### the first suffix -/
theorem last_L (hn : 0 < s.length) : sm s (s.length - 1) = false := sm_last (by omega)
theorem idx_last (H : Init s e0) (hn : 0 < s.length) : idx s e0 (s.length - 1) = head s (c s (s.length - 1)) := by
  rw [idx_L (last_L hn)]
  have : cnt s (fun q => (decide (c s q = c s (s.length - 1)) && !(sm s q)) && ll (K s e0 q) (K s e0 (s.length - 1))) = 0 := by
    refine List.countP_eq_zero.2 (fun q hq h => ?_)
    simp only [Bool.and_eq_true, decide_eq_true_eq, Bool.not_eq_true'] at h
    obtain ⟨⟨h1, h2⟩, h3⟩ := h
    rcases Kl_iff.1 h3 with h | ⟨_, h⟩
    · have := enc_eq.2 ⟨h1, h2.trans (last_L hn).symm⟩; omega
    · rw [kN_end (u := s.length - 1 + 1) (by omega), ll_nil_r] at h; cases h
  rw [this]; rfl
theorem specL_zero (H : Init s e0) (hn : 0 < s.length) {x : Nat} (hx : x < s.length) : specL s e0 A0 0 x = if x = head s (c s (s.length - 1)) then ((s.length - 1 : Nat) : Int) else A0 x := by
  unfold specL
  have hux := ux_lt (e0 := e0) hx
  have e : (sm s (ux s e0 x) = false ∧ loc s e0 (ux s e0 x + 1) ≤ 0) ↔ x = head s (c s (s.length - 1)) := by
    rw [← idx_last H hn, ← ux_eq H hx (by omega)]
    constructor
    · rintro ⟨_, h⟩
      have := loc_zero (s := s) (e0 := e0) (u := ux s e0 x + 1) (by omega)
      omega
    · intro h
      rw [h]
      exact ⟨last_L hn, by rw [loc_end (by omega)]; omega⟩
  by_cases h : x = head s (c s (s.length - 1))
  · rw [if_pos h, if_pos (e.2 h)]
    have := (ux_eq H hx (show s.length - 1 < s.length by omega)).2 (h.trans (idx_last H hn).symm)
    rw [this]
  · rw [if_neg h, if_neg (fun g => h (e.1 g))]
theorem atL_zero (hn : 0 < s.length) (a : Nat) : atL s e0 0 a = if a = c s (s.length - 1) then head s a + 1 else head s a := by
  unfold atL
  have e : ∀ q, q < s.length → (decide (loc s e0 (q + 1) ≤ 0) = true ↔ q = s.length - 1) := by
    intro q hq
    rw [decide_eq_true_eq]
    constructor
    · intro h
      have := loc_zero (s := s) (e0 := e0) (u := q + 1) (by omega)
      omega
    · rintro rfl; rw [loc_end (by omega)]; omega
  by_cases h : a = c s (s.length - 1)
  · rw [if_pos h, cnt_one (a := s.length - 1) (by omega)]
    intro x hx
    rw [Bool.and_eq_true, e x hx]
    constructor
    · exact fun h => h.2
    · rintro rfl; exact ⟨by simp [h, last_L hn], rfl⟩
  · rw [if_neg h]
    have : cnt s (fun q => (decide (c s q = a) && !(sm s q)) && decide (loc s e0 (q + 1) ≤ 0)) = 0 := by
      refine List.countP_eq_zero.2 (fun q hq g => ?_)
      rw [Bool.and_eq_true, e q (List.mem_range.1 hq)] at g
      obtain ⟨g1, rfl⟩ := g
      simp only [Bool.and_eq_true, decide_eq_true_eq] at g1
      exact h g1.1.symm
    rw [this]; rfl

/-! ### the pass forward -/
/-- whom the pass meets at index i -/
theorem visit (H : Init s e0) (HA : Laid s e0 A0) {i : Nat} (hi : i < s.length) :
    (∃ u, X s u ∧ u < s.length ∧ loc s e0 u = i + 1 ∧ specL s e0 A0 i i = (u : Int)) ∨ (specL s e0 A0 i i = -1 ∧ ∀ u, X s u → loc s e0 u ≠ i + 1) := by
  have hux := ux_lt (e0 := e0) hi
  have hix := idx_ux H hi
  by_cases hL : sm s (ux s e0 i) = false
  · left
    have h1 := loc_next H hux hL
    rw [hix] at h1
    refine ⟨ux s e0 i, .inr ⟨hux, .inl hL⟩, hux, by rw [loc_L hux hL, hix], ?_⟩
    unfold specL; rw [if_pos ⟨hL, h1⟩]
  · have hS : sm s (ux s e0 i) = true := by simpa using hL
    have hb := S_bounds H hux hS
    rw [hix] at hb
    have hsp : specL s e0 A0 i i = A0 i := by unfold specL; rw [if_neg (fun h => hL h.1)]
    rw [hsp]
    by_cases he : ∃ u, lms s u = true ∧ e0 u = i
    · obtain ⟨u, hu, rfl⟩ := he
      have := lms_lt hu
      exact .inl ⟨u, .inr ⟨by omega, .inr hu⟩, by omega, loc_lms hu, HA.put u hu⟩
    · right
      refine ⟨HA.no i hi (fun u hu e => he ⟨u, hu, e⟩), fun u hu h => ?_⟩
      rcases hu with hu | ⟨hu, hu2 | hu2⟩
      · rw [loc_end (Nat.le_of_eq hu.symm)] at h; omega
      · rw [loc_L hu hu2] at h
        have : ux s e0 i = u := (ux_eq H hi hu).2 (by omega)
        rw [this] at hS; rw [hS] at hu2; cases hu2
      · rw [loc_lms hu2] at h
        exact he ⟨u, hu2, by omega⟩

/-- who is placed at index i -/
theorem placed_iff (H : Init s e0) {i u : Nat} (hu : X s u) (hl : loc s e0 u = i + 1) {q : Nat} (hq : q < s.length) (hL : sm s q = false) : loc s e0 (q + 1) ≤ i + 1 ↔ loc s e0 (q + 1) ≤ i ∨ q + 1 = u := by
  constructor
  · intro h
    by_cases e : loc s e0 (q + 1) ≤ i
    · exact .inl e
    · exact .inr (loc_inj H (X_next hq hL) hu (by omega))
  · rintro (h | h)
    · omega
    · rw [h]; omega

/-- a step that places j -/
theorem stepL (H : Init s e0) {i j : Nat} (hj : j < s.length) (hL : sm s j = false) (hl : loc s e0 (j + 1) = i + 1) :
    atL s e0 i (c s j) = idx s e0 j ∧ (∀ x, x < s.length → specL s e0 A0 (i + 1) x = if x = idx s e0 j then (j : Int) else specL s e0 A0 i x) ∧ (∀ a, atL s e0 (i + 1) a = if a = c s j then atL s e0 i a + 1 else atL s e0 i a) := by
  have hXj := X_next hj hL
  refine ⟨?_, fun x hx => ?_, fun a => ?_⟩
  · unfold atL
    rw [idx_L hL]
    congr 1
    refine cnt_congr (fun q hq => ?_)
    by_cases hq1 : c s q = c s j ∧ sm s q = false
    · have e1 : (decide (c s q = c s j) && !(sm s q)) = true := by simp [hq1]
      rw [e1, Bool.true_and, Bool.true_and, Bool.eq_iff_iff, decide_eq_true_eq, Kl_iff]
      have henc := enc_eq.2 ⟨hq1.1, hq1.2.trans hL.symm⟩
      rw [kl_loc H (X_next hq hq1.2) hXj, hl]
      constructor
      · intro h; exact .inr ⟨henc, by omega⟩
      · rintro (h | ⟨_, h⟩)
        · omega
        · omega
    · have e1 : (decide (c s q = c s j) && !(sm s q)) = false := by
        cases e2 : (decide (c s q = c s j) && !(sm s q)) with
        | false => rfl
        | true => simp at e2; exact absurd e2 hq1
      rw [e1, Bool.false_and, Bool.false_and]
  · unfold specL
    have hux := ux_lt (e0 := e0) hx
    by_cases h : x = idx s e0 j
    · have e := (ux_eq H hx hj).2 h
      rw [if_pos h, e, if_pos ⟨hL, by omega⟩]
    · rw [if_neg h]
      have e : ux s e0 x ≠ j := fun g => h ((ux_eq H hx hj).1 g)
      by_cases hxL : sm s (ux s e0 x) = false
      · have hp := placed_iff H hXj hl hux hxL
        by_cases g : loc s e0 (ux s e0 x + 1) ≤ i
        · rw [if_pos ⟨hxL, by omega⟩, if_pos ⟨hxL, g⟩]
        · rw [if_neg (fun k => by rcases hp.1 k.2 with k | k; exact g k; exact e (by omega)), if_neg (fun k => g k.2)]
      · rw [if_neg (fun k => hxL k.1), if_neg (fun k => hxL k.1)]
  · unfold atL
    have hq : cnt s (fun q => (decide (c s q = a) && !(sm s q)) && decide (loc s e0 (q + 1) ≤ i + 1)) = cnt s (fun q => ((decide (c s q = a) && !(sm s q)) && decide (loc s e0 (q + 1) ≤ i)) || (decide (c s j = a) && decide (q = j))) := by
      refine cnt_congr (fun q hq => ?_)
      rw [Bool.eq_iff_iff]
      simp only [Bool.or_eq_true, Bool.and_eq_true, decide_eq_true_eq, Bool.not_eq_true']
      constructor
      · rintro ⟨⟨h1, h2⟩, h3⟩
        rcases (placed_iff H hXj hl hq h2).1 h3 with h | h
        · exact .inl ⟨⟨h1, h2⟩, h⟩
        · have : q = j := by omega
          subst this; exact .inr ⟨h1, rfl⟩
      · rintro (⟨⟨h1, h2⟩, h3⟩ | ⟨h1, rfl⟩)
        · exact ⟨⟨h1, h2⟩, by omega⟩
        · exact ⟨⟨h1, hL⟩, by omega⟩
    rw [hq, cnt_or]
    · by_cases e : a = c s j
      · rw [if_pos e, cnt_one (p := fun q => decide (c s j = a) && decide (q = j)) (a := j) hj (by intro x _; simp [e])]; omega
      · rw [if_neg e]
        have : cnt s (fun q => decide (c s j = a) && decide (q = j)) = 0 := List.countP_eq_zero.2 (fun q _ g => by
          simp at g; exact e g.1.symm)
        rw [this]; rfl
    · intro x _ h1 h2
      simp only [Bool.and_eq_true, decide_eq_true_eq] at h1 h2
      rw [h2.2] at h1; omega

/-- a step that places none -/
theorem stepL_none (H : Init s e0) {i : Nat} (h : ∀ q, q < s.length → sm s q = false → loc s e0 (q + 1) ≠ i + 1) :
    (∀ x, x < s.length → specL s e0 A0 (i + 1) x = specL s e0 A0 i x) ∧ (∀ a, atL s e0 (i + 1) a = atL s e0 i a) := by
  refine ⟨fun x hx => ?_, fun a => ?_⟩
  · unfold specL
    have hux := ux_lt (e0 := e0) hx
    by_cases hxL : sm s (ux s e0 x) = false
    · have := h _ hux hxL
      by_cases g : loc s e0 (ux s e0 x + 1) ≤ i
      · rw [if_pos ⟨hxL, by omega⟩, if_pos ⟨hxL, g⟩]
      · rw [if_neg (fun k => by have := k.2; omega), if_neg (fun k => g k.2)]
    · rw [if_neg (fun k => hxL k.1), if_neg (fun k => hxL k.1)]
  · unfold atL
    congr 1
    refine cnt_congr (fun q hq => ?_)
    by_cases hqL : sm s q = false
    · have := h q hq hqL
      have e : decide (loc s e0 (q + 1) ≤ i + 1) = decide (loc s e0 (q + 1) ≤ i) := by
        rw [Bool.eq_iff_iff, decide_eq_true_eq, decide_eq_true_eq]; omega
      rw [e]
    · have : sm s q = true := by simpa using hqL
      simp [this]

/-- one round of the pass forward: the index that is read, the two outcomes -/
theorem roundL (H : Init s e0) (HA : Laid s e0 A0) {i : Nat} (hi : i < s.length) :
    (∃ j : Nat, specL s e0 A0 i i = (j : Int) + 1 ∧ j < s.length ∧ sm s j = false ∧ atL s e0 i (c s j) < s.length ∧ (∀ x, x < s.length → specL s e0 A0 (i + 1) x = if x = atL s e0 i (c s j) then (j : Int) else specL s e0 A0 i x) ∧ (∀ a, atL s e0 (i + 1) a = if a = c s j then atL s e0 i a + 1 else atL s e0 i a)) ∨
    ((specL s e0 A0 i i < 1 ∨ ∃ j : Nat, specL s e0 A0 i i = (j : Int) + 1 ∧ j < s.length ∧ sm s j = true) ∧ -1 ≤ specL s e0 A0 i i ∧ (∀ x, x < s.length → specL s e0 A0 (i + 1) x = specL s e0 A0 i x) ∧ (∀ a, atL s e0 (i + 1) a = atL s e0 i a)) := by
  rcases visit H HA hi with ⟨u, hX, hu, hl, hv⟩ | ⟨hv, hno⟩
  · by_cases h0 : u = 0
    · right
      subst h0
      have hn : ∀ q, q < s.length → sm s q = false → loc s e0 (q + 1) ≠ i + 1 := fun q hq hL e => by
        have := loc_inj H (X_next hq hL) hX (e.trans hl.symm); omega
      exact ⟨.inl (by rw [hv]; simp), by rw [hv]; simp, (stepL_none (A0 := A0) H hn).1, (stepL_none (A0 := A0) H hn).2⟩
    · obtain ⟨j, rfl⟩ : ∃ j, u = j + 1 := ⟨u - 1, by omega⟩
      by_cases hL : sm s j = false
      · left
        obtain ⟨a1, a2, a3⟩ := stepL (A0 := A0) H (by omega) hL hl
        refine ⟨j, by rw [hv]; rfl, by omega, hL, by rw [a1]; exact idx_lt H (by omega), fun x hx => by rw [a1]; exact a2 x hx, a3⟩
      · right
        have hS : sm s j = true := by simpa using hL
        have hn : ∀ q, q < s.length → sm s q = false → loc s e0 (q + 1) ≠ i + 1 := fun q hq hL' e => by
          have := loc_inj H (X_next hq hL') hX (e.trans hl.symm)
          have : q = j := by omega
          subst this; exact hL hL'
        exact ⟨.inr ⟨j, by rw [hv]; rfl, by omega, hS⟩, by rw [hv]; omega, (stepL_none (A0 := A0) H hn).1, (stepL_none (A0 := A0) H hn).2⟩
  · right
    have hn : ∀ q, q < s.length → sm s q = false → loc s e0 (q + 1) ≠ i + 1 := fun q hq hL e => hno (q + 1) (X_next hq hL) e
    exact ⟨.inl (by rw [hv]; decide), by rw [hv]; decide, (stepL_none (A0 := A0) H hn).1, (stepL_none (A0 := A0) H hn).2⟩

/-! ### between the passes -/
theorem loc_le (H : Init s e0) {u : Nat} (hu : X s u) : loc s e0 u ≤ s.length := by
  rcases hu with hu | ⟨hu, hu2 | hu2⟩
  · rw [loc_end (Nat.le_of_eq hu.symm)]; omega
  · rw [loc_L hu hu2]; have := idx_lt H hu; omega
  · rw [loc_lms hu2]; have := H.hi u hu2; have := tail_le (s := s) (c s u); omega
theorem specS_top (H : Init s e0) {x : Nat} (hx : x < s.length) : specS s e0 A0 s.length x = specL s e0 A0 s.length x := by
  unfold specS specL
  have hux := ux_lt (e0 := e0) hx
  cases e : sm s (ux s e0 x) with
  | false =>
    have := loc_le H (X_next hux e)
    simp [this]
  | true =>
    have h1 := sm_lt e
    have := idx_lt H h1
    rw [if_neg (fun h => by have := h.2; omega), if_neg (by simp), if_neg (by simp)]
theorem atS_top (H : Init s e0) (a : Nat) : atS s e0 s.length a = tail s a := by
  unfold atS
  have : cnt s (fun q => (decide (c s q = a) && sm s q) && decide (s.length ≤ idx s e0 (q + 1))) = 0 := by
    refine List.countP_eq_zero.2 (fun q hq h => ?_)
    simp only [Bool.and_eq_true, decide_eq_true_eq] at h
    have := idx_lt H (sm_lt h.1.2)
    omega
  rw [this]; rfl

/-! ### the pass backward -/
theorem specS_at (H : Init s e0) {i : Nat} (hi : i < s.length) : specS s e0 A0 (i + 1) i = (ux s e0 i : Int) := by
  unfold specS
  have hux := ux_lt (e0 := e0) hi
  cases e : sm s (ux s e0 i) with
  | false => simp
  | true =>
    have := idx_next H e
    rw [idx_ux H hi] at this
    simp; omega
theorem specS_zero (H : Init s e0) {x : Nat} : specS s e0 A0 0 x = (ux s e0 x : Int) := by
  unfold specS
  cases e : sm s (ux s e0 x) <;> simp

theorem stepS (H : Init s e0) {i j : Nat} (hS : sm s j = true) (hl : idx s e0 (j + 1) = i) :
    atS s e0 (i + 1) (c s j) = idx s e0 j + 1 ∧ (∀ x, x < s.length → specS s e0 A0 i x = if x = idx s e0 j then (j : Int) else specS s e0 A0 (i + 1) x) ∧ (∀ a, atS s e0 i a = if a = c s j then atS s e0 (i + 1) a - 1 else atS s e0 (i + 1) a) := by
  have hj1 := sm_lt hS
  have hj : j < s.length := by omega
  refine ⟨?_, fun x hx => ?_, fun a => ?_⟩
  · unfold atS
    have h := idx_S H hj hS
    have e : cnt s (fun q => (decide (c s q = c s j) && sm s q) && decide (i + 1 ≤ idx s e0 (q + 1))) = cnt s (fun q => (decide (c s q = c s j) && sm s q) && ll (K s e0 j) (K s e0 q)) := by
      refine cnt_congr (fun q hq => ?_)
      by_cases hq1 : c s q = c s j ∧ sm s q = true
      · have e1 : (decide (c s q = c s j) && sm s q) = true := by simp [hq1]
        have hq2 := sm_lt hq1.2
        rw [e1, Bool.true_and, Bool.true_and, Bool.eq_iff_iff, decide_eq_true_eq, Kl_iff, kN_step hj1 (s_next hS), kN_step hq2 (s_next hq1.2), Kl_idx H hj1 hq2, hl]
        have henc := enc_eq.2 ⟨hq1.1.symm, hS.trans hq1.2.symm⟩
        constructor
        · intro h; exact .inr ⟨henc, by omega⟩
        · rintro (h | ⟨_, h⟩) <;> omega
      · have e1 : (decide (c s q = c s j) && sm s q) = false := by
          cases e2 : (decide (c s q = c s j) && sm s q) with
          | false => rfl
          | true => simp at e2; exact absurd e2 hq1
        rw [e1, Bool.false_and, Bool.false_and]
    rw [e]; omega
  · unfold specS
    have hux := ux_lt (e0 := e0) hx
    by_cases h : x = idx s e0 j
    · have e := (ux_eq H hx hj).2 h
      rw [if_pos h, e, if_pos ⟨hS, by omega⟩]
    · rw [if_neg h]
      have e : ux s e0 x ≠ j := fun g => h ((ux_eq H hx hj).1 g)
      by_cases hxS : sm s (ux s e0 x) = true
      · have hne : idx s e0 (ux s e0 x + 1) ≠ i := fun g => by
          have := idx_inj H (sm_lt hxS) hj1 (g.trans hl.symm); omega
        have key : (sm s (ux s e0 x) = true ∧ i ≤ idx s e0 (ux s e0 x + 1)) = (sm s (ux s e0 x) = true ∧ i + 1 ≤ idx s e0 (ux s e0 x + 1)) := propext ⟨fun k => ⟨k.1, by have := k.2; omega⟩, fun k => ⟨k.1, by have := k.2; omega⟩⟩
        simp only [key]
      · have key : (sm s (ux s e0 x) = true ∧ i ≤ idx s e0 (ux s e0 x + 1)) = (sm s (ux s e0 x) = true ∧ i + 1 ≤ idx s e0 (ux s e0 x + 1)) := propext ⟨fun k => absurd k.1 hxS, fun k => absurd k.1 hxS⟩
        simp only [key]
  · unfold atS
    have hq : cnt s (fun q => (decide (c s q = a) && sm s q) && decide (i ≤ idx s e0 (q + 1))) = cnt s (fun q => ((decide (c s q = a) && sm s q) && decide (i + 1 ≤ idx s e0 (q + 1))) || (decide (c s j = a) && decide (q = j))) := by
      refine cnt_congr (fun q hq => ?_)
      rw [Bool.eq_iff_iff]
      simp only [Bool.or_eq_true, Bool.and_eq_true, decide_eq_true_eq]
      constructor
      · rintro ⟨⟨h1, h2⟩, h3⟩
        by_cases g : i + 1 ≤ idx s e0 (q + 1)
        · exact .inl ⟨⟨h1, h2⟩, g⟩
        · have := idx_inj H (sm_lt h2) hj1 (show idx s e0 (q + 1) = idx s e0 (j + 1) by omega)
          have : q = j := by omega
          subst this; exact .inr ⟨h1, rfl⟩
      · rintro (⟨⟨h1, h2⟩, h3⟩ | ⟨h1, rfl⟩)
        · exact ⟨⟨h1, h2⟩, by omega⟩
        · exact ⟨⟨h1, hS⟩, by omega⟩
    rw [hq, cnt_or]
    · by_cases e : a = c s j
      · rw [if_pos e, cnt_one (p := fun q => decide (c s j = a) && decide (q = j)) (a := j) hj (by intro x _; simp [e])]; omega
      · rw [if_neg e]
        have : cnt s (fun q => decide (c s j = a) && decide (q = j)) = 0 := List.countP_eq_zero.2 (fun q _ g => by
          simp at g; exact e g.1.symm)
        rw [this]; rfl
    · intro x _ h1 h2
      simp only [Bool.and_eq_true, decide_eq_true_eq] at h1 h2
      rw [h2.2] at h1; omega

theorem stepS_none (H : Init s e0) {i : Nat} (h : ∀ q, sm s q = true → idx s e0 (q + 1) ≠ i) :
    (∀ x, x < s.length → specS s e0 A0 i x = specS s e0 A0 (i + 1) x) ∧ (∀ a, atS s e0 i a = atS s e0 (i + 1) a) := by
  refine ⟨fun x hx => ?_, fun a => ?_⟩
  · unfold specS
    by_cases hxS : sm s (ux s e0 x) = true
    · have := h _ hxS
      have key : (sm s (ux s e0 x) = true ∧ i ≤ idx s e0 (ux s e0 x + 1)) = (sm s (ux s e0 x) = true ∧ i + 1 ≤ idx s e0 (ux s e0 x + 1)) := propext ⟨fun k => ⟨k.1, by have := k.2; omega⟩, fun k => ⟨k.1, by have := k.2; omega⟩⟩
      simp only [key]
    · have key : (sm s (ux s e0 x) = true ∧ i ≤ idx s e0 (ux s e0 x + 1)) = (sm s (ux s e0 x) = true ∧ i + 1 ≤ idx s e0 (ux s e0 x + 1)) := propext ⟨fun k => absurd k.1 hxS, fun k => absurd k.1 hxS⟩
      simp only [key]
  · unfold atS
    congr 1
    refine cnt_congr (fun q hq => ?_)
    by_cases hqS : sm s q = true
    · have := h q hqS
      have e : decide (i ≤ idx s e0 (q + 1)) = decide (i + 1 ≤ idx s e0 (q + 1)) := by
        rw [Bool.eq_iff_iff, decide_eq_true_eq, decide_eq_true_eq]; omega
      rw [e]
    · have : sm s q = false := by simpa using hqS
      simp [this]

/-- one round of the pass backward -/
theorem roundS (H : Init s e0) {i : Nat} (hi : i < s.length) :
    (∃ j : Nat, specS s e0 A0 (i + 1) i = (j : Int) + 1 ∧ j < s.length ∧ sm s j = true ∧ 0 < atS s e0 (i + 1) (c s j) ∧ atS s e0 (i + 1) (c s j) ≤ s.length ∧ (∀ x, x < s.length → specS s e0 A0 i x = if x = atS s e0 (i + 1) (c s j) - 1 then (j : Int) else specS s e0 A0 (i + 1) x) ∧ (∀ a, atS s e0 i a = if a = c s j then atS s e0 (i + 1) a - 1 else atS s e0 (i + 1) a)) ∨
    ((specS s e0 A0 (i + 1) i = 0 ∨ ∃ j : Nat, specS s e0 A0 (i + 1) i = (j : Int) + 1 ∧ j < s.length ∧ sm s j = false) ∧ (∀ x, x < s.length → specS s e0 A0 i x = specS s e0 A0 (i + 1) x) ∧ (∀ a, atS s e0 i a = atS s e0 (i + 1) a)) := by
  have hv := specS_at (A0 := A0) H hi
  have hux := ux_lt (e0 := e0) hi
  have hix := idx_ux H hi
  by_cases h0 : ux s e0 i = 0
  · right
    have hn : ∀ q, sm s q = true → idx s e0 (q + 1) ≠ i := fun q hq e => by
      have := idx_inj H (sm_lt hq) hux (e.trans hix.symm); omega
    exact ⟨.inl (by rw [hv, h0]; rfl), (stepS_none (A0 := A0) H hn).1, (stepS_none (A0 := A0) H hn).2⟩
  · obtain ⟨j, hj⟩ : ∃ j, ux s e0 i = j + 1 := ⟨ux s e0 i - 1, by omega⟩
    rw [hj] at hux hix
    cases e : sm s j with
    | true =>
      left
      obtain ⟨a1, a2, a3⟩ := stepS (A0 := A0) H e hix
      have := idx_lt H (show j < s.length by omega)
      exact ⟨j, by rw [hv, hj]; rfl, by omega, e, by omega, by omega, fun x hx => by rw [a1, Nat.add_sub_cancel]; exact a2 x hx, a3⟩
    | false =>
      right
      have hn : ∀ q, sm s q = true → idx s e0 (q + 1) ≠ i := fun q hq g => by
        have := idx_inj H (sm_lt hq) hux (g.trans hix.symm)
        have : q = j := by omega
        subst this; rw [e] at hq; cases hq
      exact ⟨.inr ⟨j, by rw [hv, hj]; rfl, by omega, e⟩, (stepS_none (A0 := A0) H hn).1, (stepS_none (A0 := A0) H hn).2⟩
end Go.Proofs.Qxb6606288a.Sais
