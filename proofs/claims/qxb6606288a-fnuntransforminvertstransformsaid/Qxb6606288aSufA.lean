/-
  The order of suffixes and their types: plain. Not trusted: the kernel checks it.
-/
namespace Go.Proofs.Qxb6606288a.Sais
set_option linter.unusedVariables false

/-! ### the order of lists -/
def ll : List Nat → List Nat → Bool
  | [], [] => false
  | [], _ :: _ => true
  | _ :: _, [] => false
  | a :: l, b :: m => decide (a < b) || (decide (a = b) && ll l m)

theorem ll_cons {a b : Nat} {l m : List Nat} : ll (a :: l) (b :: m) = true ↔ a < b ∨ (a = b ∧ ll l m = true) := by
  simp [ll]
theorem ll_nil_r (l : List Nat) : ll l [] = false := by cases l <;> rfl
theorem ll_nil_l {l : List Nat} (h : l ≠ []) : ll [] l = true := by cases l with
  | nil => exact absurd rfl h
  | cons a l => rfl
theorem ll_irrefl : ∀ l, ll l l = false
  | [] => rfl
  | a :: l => by simp [ll, ll_irrefl l]
theorem ll_trans : ∀ {a b c : List Nat}, ll a b = true → ll b c = true → ll a c = true
  | [], [], c, h, _ => by simp [ll] at h
  | [], b :: l, [], _, h => by simp [ll] at h
  | [], b :: l, c :: m, _, _ => rfl
  | a :: l, [], c, h, _ => by simp [ll] at h
  | a :: l, b :: m, [], _, h => by simp [ll] at h
  | a :: l, b :: m, c :: k, h1, h2 => by
    rw [ll_cons] at h1 h2 ⊢
    rcases h1 with h1 | ⟨h1, g1⟩
    · rcases h2 with h2 | ⟨h2, g2⟩
      · left; omega
      · left; omega
    · rcases h2 with h2 | ⟨h2, g2⟩
      · left; omega
      · exact .inr ⟨h1.trans h2, ll_trans g1 g2⟩
theorem ll_total : ∀ {a b : List Nat}, a ≠ b → ll a b = true ∨ ll b a = true
  | [], [], h => absurd rfl h
  | [], b :: l, _ => .inl rfl
  | a :: l, [], _ => .inr rfl
  | a :: l, b :: m, h => by
    rw [ll_cons, ll_cons]
    by_cases e : a = b
    · subst e
      have : l ≠ m := fun e => h (by rw [e])
      rcases ll_total this with g | g
      · exact .inl (.inr ⟨rfl, g⟩)
      · exact .inr (.inr ⟨rfl, g⟩)
    · rcases Nat.lt_or_gt_of_ne e with g | g
      · exact .inl (.inl g)
      · exact .inr (.inl g)
theorem ll_asymm {a b : List Nat} (h : ll a b = true) : ll b a = false := by
  cases e : ll b a with
  | false => rfl
  | true => have := ll_trans h e; rw [ll_irrefl] at this; cases this

/-! ### suffixes -/
section
variable (s : List Nat)

def c (i : Nat) : Nat := s.getD i 0
def lt (i j : Nat) : Prop := ll (s.drop i) (s.drop j) = true
def sm (i : Nat) : Bool := ll (s.drop i) (s.drop (i + 1))

variable {s}
theorem drop_c {i : Nat} (h : i < s.length) : s.drop i = c s i :: s.drop (i + 1) := by
  rw [List.drop_eq_getElem_cons h]
  simp [c, List.getD_eq_getElem?_getD, h]
theorem lt_iff {i j : Nat} (hi : i < s.length) (hj : j < s.length) : lt s i j ↔ c s i < c s j ∨ (c s i = c s j ∧ lt s (i + 1) (j + 1)) := by
  unfold lt
  rw [drop_c hi, drop_c hj, ll_cons]
theorem lt_end {j : Nat} (hj : j < s.length) : lt s s.length j := by
  unfold lt
  rw [List.drop_length, drop_c hj]; rfl
theorem not_lt_end {i j : Nat} (hj : s.length ≤ j) : ¬ lt s i j := by
  unfold lt
  rw [List.drop_eq_nil_of_le hj, ll_nil_r]; simp
theorem lt_trans {i j k : Nat} (h1 : lt s i j) (h2 : lt s j k) : lt s i k := ll_trans h1 h2
theorem lt_irrefl (i : Nat) : ¬ lt s i i := by unfold lt; rw [ll_irrefl]; simp
theorem lt_asymm {i j : Nat} (h : lt s i j) : ¬ lt s j i := fun h2 => lt_irrefl i (lt_trans h h2)
theorem lt_total {i j : Nat} (hi : i ≤ s.length) (hj : j ≤ s.length) (h : i ≠ j) : lt s i j ∨ lt s j i := by
  refine ll_total (fun e => h ?_)
  have := congrArg List.length e
  rw [List.length_drop, List.length_drop] at this
  omega

theorem sm_iff {i : Nat} : sm s i = true ↔ lt s i (i + 1) := Iff.rfl
theorem sm_last {i : Nat} (h : i + 1 = s.length) : sm s i = false := by
  unfold sm; rw [List.drop_eq_nil_of_le (Nat.le_of_eq h.symm), ll_nil_r]
theorem sm_lt {i : Nat} (h : sm s i = true) : i + 1 < s.length := by
  by_cases e : i + 1 < s.length
  · exact e
  · unfold sm at h
    have e2 : s.drop (i + 1) = [] := List.drop_eq_nil_of_le (by omega)
    rw [e2, ll_nil_r] at h; cases h
theorem sm_step {i : Nat} (h : i + 1 < s.length) : sm s i = (decide (c s i < c s (i + 1)) || (decide (c s i = c s (i + 1)) && sm s (i + 1))) := by
  unfold sm
  rw [drop_c (show i < s.length by omega), drop_c h]
  conv => lhs; unfold ll

/-- L before S -/
theorem l_before_s : ∀ (d i j : Nat), s.length - i = d → i < s.length → j < s.length → c s i = c s j → sm s i = false → sm s j = true → lt s i j
  | 0, i, j, hd, hi, _, _, _, _ => by omega
  | d + 1, i, j, hd, hi, hj, hc, h1, h2 => by
    have hj1 := sm_lt h2
    rw [lt_iff hi hj]
    refine .inr ⟨hc, ?_⟩
    by_cases e : i + 1 = s.length
    · rw [e]; exact lt_end hj1
    have hi1 : i + 1 < s.length := by omega
    rw [sm_step hi1] at h1
    rw [sm_step hj1] at h2
    simp at h1 h2
    rw [lt_iff hi1 hj1]
    rcases h2 with h2 | ⟨h2, g2⟩
    · left; omega
    · by_cases e2 : c s i = c s (i + 1)
      · have g1 := h1.2 e2
        have := l_before_s d (i + 1) (j + 1) (by omega) hi1 hj1 (by omega) g1 g2
        rw [lt_iff hi1 hj1] at this
        exact this
      · left; omega
theorem l_before {i j : Nat} (hi : i < s.length) (hj : j < s.length) (hc : c s i = c s j) (h1 : sm s i = false) (h2 : sm s j = true) : lt s i j := l_before_s _ i j rfl hi hj hc h1 h2

def lms (s : List Nat) (i : Nat) : Bool := decide (0 < i) && sm s i && !(sm s (i - 1))
theorem lms_iff {i : Nat} : lms s i = true ↔ 0 < i ∧ sm s i = true ∧ sm s (i - 1) = false := by simp [lms, and_assoc]
theorem lms_lt {i : Nat} (h : lms s i = true) : i + 1 < s.length := sm_lt (lms_iff.1 h).2.1
/-- behind an L comes an L, an LMS, or the end -/
theorem l_next {i : Nat} (hi : i < s.length) (h : sm s i = false) : i + 1 = s.length ∨ (i + 1 < s.length ∧ (sm s (i + 1) = false ∨ lms s (i + 1) = true)) := by
  by_cases e : i + 1 = s.length
  · exact .inl e
  · refine .inr ⟨by omega, ?_⟩
    cases e2 : sm s (i + 1) with
    | false => exact .inl rfl
    | true => right; rw [lms_iff]; exact ⟨by omega, e2, by simpa using h⟩
/-- behind an S that is followed by an S there is no LMS -/
theorem s_next {i : Nat} (h : sm s i = true) : lms s (i + 1) = false := by
  cases e : lms s (i + 1) with
  | false => rfl
  | true => have := (lms_iff.1 e).2.2; simp at this; rw [h] at this; cases this
/-- an L is no smaller than what follows; strictly greater if that is an S -/
theorem l_ge {i : Nat} (h1 : i + 1 < s.length) (h : sm s i = false) : c s (i + 1) ≤ c s i ∧ (sm s (i + 1) = true → c s (i + 1) < c s i) ∧ (c s (i + 1) = c s i → sm s (i + 1) = false) := by
  rw [sm_step h1] at h
  simp at h
  refine ⟨h.1, fun g => ?_, fun g => h.2 g.symm⟩
  by_cases e : c s i = c s (i + 1)
  · have := h.2 e; rw [g] at this; cases this
  · have := h.1; omega
theorem s_le {i : Nat} (h : sm s i = true) : c s i ≤ c s (i + 1) ∧ (sm s (i + 1) = false → c s i < c s (i + 1)) ∧ (c s i = c s (i + 1) → sm s (i + 1) = true) := by
  have h1 := sm_lt h
  rw [sm_step h1] at h
  simp at h
  refine ⟨by rcases h with h | h <;> omega, fun g => ?_, fun g => ?_⟩
  · rcases h with h | h
    · exact h
    · rw [g] at h; cases h.2
  · rcases h with h | h
    · omega
    · exact h.2
end

/-! ### counting -/
theorem pw_map {α : Type} {R S : α → α → Prop} (h : ∀ a b, R a b → S a b) : ∀ {l : List α}, l.Pairwise R → l.Pairwise S
  | [], _ => List.Pairwise.nil
  | a :: l, hp => by
    obtain ⟨h1, h2⟩ := List.pairwise_cons.1 hp
    exact List.pairwise_cons.2 ⟨fun b hb => h a b (h1 b hb), pw_map h h2⟩
theorem countP_or {α : Type} (l : List α) (p q : α → Bool) (h : ∀ x ∈ l, p x = true → q x = true → False) : l.countP (fun x => p x || q x) = l.countP p + l.countP q := by
  induction l with
  | nil => rfl
  | cons a l ih =>
    have ih := ih (fun x hx => h x (List.mem_cons_of_mem _ hx))
    have ha := h a (List.mem_cons_self ..)
    simp only [List.countP_cons, ih]
    cases hp : p a <;> cases hq : q a
    · simp
    · simp; omega
    · simp; omega
    · exact absurd (ha hp hq) id
theorem countP_le_of {α : Type} (l : List α) (p q : α → Bool) (h : ∀ x ∈ l, p x = true → q x = true) : l.countP p ≤ l.countP q := List.countP_mono_left h
theorem countP_eq_of {α : Type} (l : List α) (p q : α → Bool) (h : ∀ x ∈ l, p x = q x) : l.countP p = l.countP q := List.countP_congr (fun x hx => by rw [h x hx])
theorem countP_add_not {α : Type} (l : List α) (p : α → Bool) : l.countP p + l.countP (fun x => !p x) = l.length := by
  induction l with
  | nil => rfl
  | cons a l ih => simp only [List.countP_cons, List.length_cons]; cases p a <;> simp <;> omega
theorem countP_one {α : Type} [DecidableEq α] (l : List α) (hn : l.Nodup) (a : α) (ha : a ∈ l) (p : α → Bool) (hp : ∀ x ∈ l, p x = true ↔ x = a) : l.countP p = 1 := by
  induction l with
  | nil => cases ha
  | cons b l ih =>
    obtain ⟨h1, h2⟩ := List.nodup_cons.1 hn
    rw [List.countP_cons]
    by_cases e : b = a
    · subst e
      have h0 : l.countP p = 0 := List.countP_eq_zero.2 (fun x hx h => h1 (by
        have := (hp x (List.mem_cons_of_mem _ hx)).1 h; rw [← this]; exact hx))
      have : p b = true := (hp b (List.mem_cons_self ..)).2 rfl
      rw [h0, this]; rfl
    · have ha' : a ∈ l := by rcases List.mem_cons.1 ha with h | h; exact absurd h.symm e; exact h
      have hb : p b = false := by
        cases e2 : p b with
        | false => rfl
        | true => exact absurd ((hp b (List.mem_cons_self ..)).1 e2) e
      rw [ih h2 ha' (fun x hx => hp x (List.mem_cons_of_mem _ hx)), hb]; rfl
end Go.Proofs.Qxb6606288a.Sais
