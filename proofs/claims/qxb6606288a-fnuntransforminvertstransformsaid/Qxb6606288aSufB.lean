/-
  The keys by which the two passes of induced sorting sort: plain. Not trusted: the kernel checks it.
-/
import Derived.Test.Qxb6606288aSufA
namespace Go.Proofs.Qxb6606288a.Sais
set_option linter.unusedVariables false

section
variable (s : List Nat)
def enc (p : Nat) : Nat := 2 * c s p + (if sm s p = true then 1 else 0)
def cnt (p : Nat → Bool) : Nat := (List.range s.length).countP p
def head (a : Nat) : Nat := cnt s (fun q => decide (c s q < a))
def tail (a : Nat) : Nat := cnt s (fun q => decide (c s q ≤ a))
def mid (a : Nat) : Nat := head s a + cnt s (fun q => decide (c s q = a) && !(sm s q))

/-- where the LMS suffixes are laid before the two passes -/
structure Init (e0 : Nat → Nat) : Prop where
  inj : ∀ u v, lms s u = true → lms s v = true → e0 u = e0 v → u = v
  lo : ∀ u, lms s u = true → mid s (c s u) ≤ e0 u
  hi : ∀ u, lms s u = true → e0 u < tail s (c s u)

variable (e0 : Nat → Nat)
def kNf : Nat → Nat → List Nat
  | 0, _ => []
  | f + 1, u => if lms s u = true then [enc s u, e0 u] else enc s u :: kNf f (u + 1)
def kN (u : Nat) : List Nat := kNf s e0 (s.length - u) u
def K (p : Nat) : List Nat := enc s p :: kN s e0 (p + 1)
def idx (p : Nat) : Nat := cnt s (fun q => ll (K s e0 q) (K s e0 p))
def U : List Nat := (List.range s.length).mergeSort (fun a b => !(ll (K s e0 b) (K s e0 a)))
def ux (x : Nat) : Nat := (U s e0).getD x 0
def X (u : Nat) : Prop := u = s.length ∨ (u < s.length ∧ (sm s u = false ∨ lms s u = true))
def loc (u : Nat) : Nat := if s.length ≤ u then 0 else if lms s u = true then e0 u + 1 else idx s e0 u + 1
end

variable {s : List Nat} {e0 : Nat → Nat}

theorem enc_lt {p q : Nat} : enc s p < enc s q ↔ c s p < c s q ∨ (c s p = c s q ∧ sm s p = false ∧ sm s q = true) := by
  unfold enc
  cases sm s p <;> cases sm s q <;> simp <;> omega
theorem enc_eq {p q : Nat} : enc s p = enc s q ↔ c s p = c s q ∧ sm s p = sm s q := by
  unfold enc
  cases sm s p <;> cases sm s q <;> simp <;> omega

theorem kN_end {u : Nat} (h : s.length ≤ u) : kN s e0 u = [] := by
  unfold kN; rw [Nat.sub_eq_zero_of_le h]; rfl
theorem kN_lms {u : Nat} (h : lms s u = true) : kN s e0 u = [enc s u, e0 u] := by
  have := lms_lt h
  unfold kN
  rw [show s.length - u = (s.length - u - 1) + 1 by omega]
  unfold kNf
  rw [if_pos h]
theorem kN_step {u : Nat} (hu : u < s.length) (h : lms s u = false) : kN s e0 u = K s e0 u := by
  unfold K kN
  rw [show s.length - u = (s.length - (u + 1)) + 1 by omega]
  conv => lhs; unfold kNf
  rw [if_neg (by rw [h]; simp)]
theorem l_not_lms {u : Nat} (h : sm s u = false) : lms s u = false := by
  cases e : lms s u with
  | false => rfl
  | true => rw [(lms_iff.1 e).2.1] at h; cases h
theorem X_next {i : Nat} (hi : i < s.length) (h : sm s i = false) : X s (i + 1) := l_next hi h

theorem Kl_iff {p q : Nat} : ll (K s e0 p) (K s e0 q) = true ↔ enc s p < enc s q ∨ (enc s p = enc s q ∧ ll (kN s e0 (p + 1)) (kN s e0 (q + 1)) = true) := by
  unfold K; exact ll_cons

theorem kN_inj (H : Init s e0) : ∀ (d u v : Nat), s.length - u = d → X s u → X s v → kN s e0 u = kN s e0 v → u = v
  | d, u, v, hd, hu, hv, h => by
    rcases hu with hu | ⟨hu, hu2⟩
    · rcases hv with hv | ⟨hv, hv2⟩
      · omega
      · rw [kN_end (Nat.le_of_eq hu.symm)] at h
        rcases hv2 with g | g
        · rw [kN_step hv (l_not_lms g)] at h; cases h
        · rw [kN_lms g] at h; cases h
    · rcases hv with hv | ⟨hv, hv2⟩
      · rw [kN_end (u := v) (Nat.le_of_eq hv.symm)] at h
        rcases hu2 with g | g
        · rw [kN_step hu (l_not_lms g)] at h; cases h
        · rw [kN_lms g] at h; cases h
      · rcases hu2 with g | g
        · rw [kN_step hu (l_not_lms g)] at h
          rcases hv2 with g2 | g2
          · rw [kN_step hv (l_not_lms g2)] at h
            unfold K at h
            have h2 := (List.cons.inj h).2
            match d, hd with
            | 0, hd => omega
            | d + 1, hd =>
              have := kN_inj H d (u + 1) (v + 1) (by omega) (X_next hu g) (X_next hv g2) h2
              omega
          · rw [kN_lms g2] at h
            unfold K at h
            have := (enc_eq.1 (List.cons.inj h).1).2
            rw [g, (lms_iff.1 g2).2.1] at this; cases this
        · rw [kN_lms g] at h
          rcases hv2 with g2 | g2
          · rw [kN_step hv (l_not_lms g2)] at h
            unfold K at h
            have := (enc_eq.1 (List.cons.inj h).1).2
            rw [g2, (lms_iff.1 g).2.1] at this; cases this
          · rw [kN_lms g2] at h
            have := (List.cons.inj (List.cons.inj h).2).1
            exact H.inj u v g g2 this

theorem K_inj (H : Init s e0) : ∀ (d p q : Nat), s.length - p = d → p < s.length → q < s.length → K s e0 p = K s e0 q → p = q
  | 0, p, q, hd, hp, hq, h => by omega
  | d + 1, p, q, hd, hp, hq, h => by
    unfold K at h
    obtain ⟨h1, h2⟩ := List.cons.inj h
    obtain ⟨g1, g2⟩ := enc_eq.1 h1
    cases e : sm s p with
    | false =>
      rw [e] at g2
      have := kN_inj H _ (p + 1) (q + 1) rfl (X_next hp e) (X_next hq g2.symm) h2
      omega
    | true =>
      rw [e] at g2
      have l1 := sm_lt e
      have l2 := sm_lt g2.symm
      rw [kN_step l1 (s_next e), kN_step l2 (s_next g2.symm)] at h2
      have := K_inj H d (p + 1) (q + 1) (by omega) l1 l2 h2
      omega

/-! ### the sorted list -/
theorem U_perm : (U s e0).Perm (List.range s.length) := List.mergeSort_perm _ _
theorem U_len : (U s e0).length = s.length := by rw [U_perm.length_eq, List.length_range]
theorem U_mem {p : Nat} : p ∈ U s e0 ↔ p < s.length := by rw [U_perm.mem_iff, List.mem_range]
theorem U_nodup : (U s e0).Nodup := U_perm.nodup_iff.2 List.nodup_range
theorem U_sorted (H : Init s e0) : (U s e0).Pairwise (fun a b => ll (K s e0 a) (K s e0 b) = true) := by
  have h1 : (U s e0).Pairwise (fun a b => (!(ll (K s e0 b) (K s e0 a))) = true) := by
    refine List.pairwise_mergeSort (le := fun a b => !(ll (K s e0 b) (K s e0 a))) ?_ ?_ _
    · intro a b d h1 h2
      simp at h1 h2 ⊢
      cases e : ll (K s e0 d) (K s e0 a) with
      | false => rfl
      | true =>
        by_cases e1 : K s e0 a = K s e0 b
        · rw [e1] at e; rw [e] at h2; cases h2
        · rcases ll_total e1 with g | g
          · rw [ll_trans e g] at h2; cases h2
          · rw [g] at h1; cases h1
    · intro a b
      cases e : ll (K s e0 b) (K s e0 a) with
      | false => simp
      | true => rw [ll_asymm e]; simp
  have h2 := U_nodup (s := s) (e0 := e0)
  have h3 : (U s e0).Pairwise (fun a b => a < s.length ∧ b < s.length) := by
    refine List.pairwise_iff_forall_sublist.2 (fun {a b} h => ?_)
    exact ⟨U_mem.1 (h.subset (by simp)), U_mem.1 (h.subset (by simp))⟩
  refine pw_map ?_ ((h1.and h2).and h3)
  rintro a b ⟨⟨g1, g2⟩, g3, g4⟩
  simp at g1
  rcases ll_total (fun e => g2 (K_inj H _ a b rfl g3 g4 e)) with g | g
  · exact g
  · rw [g] at g1; cases g1

theorem ux_lt {x : Nat} (h : x < s.length) : ux s e0 x < s.length := by
  have hx : x < (U s e0).length := by rw [U_len]; exact h
  unfold ux
  rw [List.getD_eq_getElem?_getD, List.getElem?_eq_getElem hx]
  exact U_mem.1 (List.getElem_mem hx)
theorem ux_get {x : Nat} (h : x < s.length) : (U s e0)[x]? = some (ux s e0 x) := by
  have hx : x < (U s e0).length := by rw [U_len]; exact h
  unfold ux
  rw [List.getD_eq_getElem?_getD, List.getElem?_eq_getElem hx]; rfl
theorem ux_mono (H : Init s e0) {x y : Nat} (h : x < y) (hy : y < s.length) : ll (K s e0 (ux s e0 x)) (K s e0 (ux s e0 y)) = true := by
  have hx := ux_get (s := s) (e0 := e0) (show x < s.length by omega)
  have hy' := ux_get (s := s) (e0 := e0) hy
  obtain ⟨a1, a2⟩ := List.getElem?_eq_some_iff.1 hx
  obtain ⟨b1, b2⟩ := List.getElem?_eq_some_iff.1 hy'
  have := List.pairwise_iff_getElem.1 (U_sorted H) x y a1 b1 h
  rw [a2, b2] at this; exact this

theorem idx_ux (H : Init s e0) {x : Nat} (h : x < s.length) : idx s e0 (ux s e0 x) = x := by
  unfold idx cnt
  rw [← U_perm.countP_eq]
  have hx := ux_get (s := s) (e0 := e0) h
  have hl := U_len (s := s) (e0 := e0)
  obtain ⟨a1, a2⟩ := List.getElem?_eq_some_iff.1 hx
  have e : U s e0 = (U s e0).take x ++ (U s e0).drop x := (List.take_append_drop ..).symm
  rw [e, List.countP_append]
  have h1 : ((U s e0).take x).countP (fun q => ll (K s e0 q) (K s e0 (ux s e0 x))) = x := by
    rw [List.countP_eq_length.2, List.length_take, hl]
    · omega
    · intro q hq
      obtain ⟨t, ht, rfl⟩ := List.mem_iff_getElem.1 hq
      rw [List.length_take] at ht
      rw [List.getElem_take]
      have := List.pairwise_iff_getElem.1 (U_sorted H) t x (by omega) a1 (by omega)
      rw [a2] at this; exact this
  have h2 : ((U s e0).drop x).countP (fun q => ll (K s e0 q) (K s e0 (ux s e0 x))) = 0 := by
    refine List.countP_eq_zero.2 (fun q hq => ?_)
    obtain ⟨t, ht, rfl⟩ := List.mem_iff_getElem.1 hq
    rw [List.length_drop] at ht
    rw [List.getElem_drop]
    by_cases e : t = 0
    · subst e
      simp only [Nat.add_zero]
      rw [a2, ll_irrefl]; simp
    · have := List.pairwise_iff_getElem.1 (U_sorted H) x (x + t) a1 (by omega) (by omega)
      rw [a2] at this
      rw [ll_asymm this]; simp
  rw [h1, h2]; rfl

theorem ux_idx (H : Init s e0) {p : Nat} (hp : p < s.length) : idx s e0 p < s.length ∧ ux s e0 (idx s e0 p) = p := by
  obtain ⟨x, hx, e⟩ := List.mem_iff_getElem.1 (U_mem (s := s) (e0 := e0).2 hp)
  rw [U_len] at hx
  have h2 : ux s e0 x = p := by
    have := ux_get (s := s) (e0 := e0) hx
    obtain ⟨a1, a2⟩ := List.getElem?_eq_some_iff.1 this
    rw [← a2]; exact e
  have h3 := idx_ux H hx
  rw [h2] at h3
  rw [h3]; exact ⟨hx, h2⟩
theorem idx_lt (H : Init s e0) {p : Nat} (hp : p < s.length) : idx s e0 p < s.length := (ux_idx H hp).1
theorem Kl_idx (H : Init s e0) {p q : Nat} (hp : p < s.length) (hq : q < s.length) : ll (K s e0 p) (K s e0 q) = true ↔ idx s e0 p < idx s e0 q := by
  obtain ⟨p1, p2⟩ := ux_idx H hp
  obtain ⟨q1, q2⟩ := ux_idx H hq
  constructor
  · intro h
    rcases Nat.lt_trichotomy (idx s e0 p) (idx s e0 q) with e | e | e
    · exact e
    · rw [e, q2] at p2; subst p2; rw [ll_irrefl] at h; cases h
    · have := ux_mono H e p1
      rw [p2, q2] at this
      rw [ll_asymm this] at h; cases h
  · intro h
    have := ux_mono H h q1
    rw [p2, q2] at this; exact this
theorem idx_inj (H : Init s e0) {p q : Nat} (hp : p < s.length) (hq : q < s.length) (h : idx s e0 p = idx s e0 q) : p = q := by
  rw [← (ux_idx H hp).2, h, (ux_idx H hq).2]

/-! ### the buckets -/
theorem cnt_le (p : Nat → Bool) : cnt s p ≤ s.length := by
  unfold cnt
  have := List.countP_le_length (p := p) (l := List.range s.length)
  rw [List.length_range] at this; exact this
theorem cnt_congr {p q : Nat → Bool} (h : ∀ x, x < s.length → p x = q x) : cnt s p = cnt s q := countP_eq_of _ _ _ (fun x hx => h x (List.mem_range.1 hx))
theorem cnt_mono {p q : Nat → Bool} (h : ∀ x, x < s.length → p x = true → q x = true) : cnt s p ≤ cnt s q := countP_le_of _ _ _ (fun x hx => h x (List.mem_range.1 hx))
theorem cnt_or {p q : Nat → Bool} (h : ∀ x, x < s.length → p x = true → q x = true → False) : cnt s (fun x => p x || q x) = cnt s p + cnt s q := countP_or _ _ _ (fun x hx => h x (List.mem_range.1 hx))
theorem cnt_one {p : Nat → Bool} {a : Nat} (ha : a < s.length) (h : ∀ x, x < s.length → (p x = true ↔ x = a)) : cnt s p = 1 := countP_one _ List.nodup_range a (List.mem_range.2 ha) _ (fun x hx => h x (List.mem_range.1 hx))
theorem cnt_not (p : Nat → Bool) : cnt s p + cnt s (fun x => !(p x)) = s.length := by
  unfold cnt; rw [countP_add_not, List.length_range]
theorem cnt_lt {p q : Nat → Bool} {a : Nat} (ha : a < s.length) (h : ∀ x, x < s.length → p x = true → q x = true) (h1 : p a = false) (h2 : q a = true) : cnt s p < cnt s q := by
  have e1 : cnt s (fun x => p x || decide (x = a)) = cnt s p + 1 := by
    rw [cnt_or, cnt_one ha (p := fun x => decide (x = a)) (by simp)]
    intro x _ hx e
    simp at e; subst e; rw [h1] at hx; cases hx
  have e2 : cnt s (fun x => p x || decide (x = a)) ≤ cnt s q := cnt_mono (fun x hx g => by
    simp at g
    rcases g with g | g
    · exact h x hx g
    · subst g; exact h2)
  omega

theorem head_le_tail (a : Nat) : head s a ≤ tail s a := cnt_mono (fun x _ h => by simp at h ⊢; omega)
theorem tail_le_head {a b : Nat} (h : a < b) : tail s a ≤ head s b := cnt_mono (fun x _ g => by simp at g ⊢; omega)
theorem head_mono {a b : Nat} (h : a ≤ b) : head s a ≤ head s b := cnt_mono (fun x _ g => by simp at g ⊢; omega)
theorem tail_le (a : Nat) : tail s a ≤ s.length := cnt_le _
theorem tail_mid (a : Nat) : tail s a = mid s a + cnt s (fun q => decide (c s q = a) && sm s q) := by
  have e1 : tail s a = cnt s (fun q => decide (c s q < a) || (decide (c s q = a) && !(sm s q) || decide (c s q = a) && sm s q)) := by
    refine cnt_congr (fun x _ => ?_)
    rw [Bool.eq_iff_iff]
    cases sm s x <;> simp <;> omega
  rw [e1, cnt_or, cnt_or]
  · unfold mid head; omega
  · intro x _ h1 h2; simp at h1 h2; rw [h1.2] at h2; cases h2.2
  · intro x _ h1 h2; simp at h1 h2; rcases h2 with h2 | h2 <;> omega
theorem head_le_mid (a : Nat) : head s a ≤ mid s a := by unfold mid; omega
theorem mid_le_tail (a : Nat) : mid s a ≤ tail s a := by rw [tail_mid]; omega

theorem idx_L {j : Nat} (hL : sm s j = false) : idx s e0 j = head s (c s j) + cnt s (fun q => (decide (c s q = c s j) && !(sm s q)) && ll (K s e0 q) (K s e0 j)) := by
  unfold head
  rw [← cnt_or]
  · refine cnt_congr (fun x hx => ?_)
    rw [Bool.eq_iff_iff]
    constructor
    · intro h
      rw [Kl_iff] at h
      simp only [Bool.or_eq_true, Bool.and_eq_true, decide_eq_true_eq, Bool.not_eq_true']
      rcases h with h | ⟨h, g⟩
      · rcases enc_lt.1 h with h1 | ⟨_, _, h3⟩
        · exact .inl h1
        · rw [hL] at h3; cases h3
      · obtain ⟨h1, h2⟩ := enc_eq.1 h
        exact .inr ⟨⟨h1, h2.trans hL⟩, Kl_iff.2 (.inr ⟨h, g⟩)⟩
    · intro h
      simp only [Bool.or_eq_true, Bool.and_eq_true, decide_eq_true_eq] at h
      rcases h with h | h
      · exact Kl_iff.2 (.inl (enc_lt.2 (.inl h)))
      · exact h.2
  · intro x _ h1 h2
    simp only [Bool.and_eq_true, decide_eq_true_eq] at h1 h2
    omega
theorem L_bounds {j : Nat} (hj : j < s.length) (hL : sm s j = false) : head s (c s j) ≤ idx s e0 j ∧ idx s e0 j < mid s (c s j) := by
  rw [idx_L hL]
  refine ⟨by omega, ?_⟩
  unfold mid
  refine Nat.add_lt_add_left (cnt_lt (a := j) hj (fun x _ h => ?_) ?_ ?_) _
  · simp only [Bool.and_eq_true] at h; simp only [Bool.and_eq_true]; exact h.1
  · simp [ll_irrefl]
  · simp [hL]

theorem idx_S (H : Init s e0) {j : Nat} (hj : j < s.length) (hS : sm s j = true) : idx s e0 j + 1 + cnt s (fun q => (decide (c s q = c s j) && sm s q) && ll (K s e0 j) (K s e0 q)) = tail s (c s j) := by
  have e1 : cnt s (fun q => ll (K s e0 j) (K s e0 q)) = cnt s (fun q => !(decide (c s q ≤ c s j))) + cnt s (fun q => (decide (c s q = c s j) && sm s q) && ll (K s e0 j) (K s e0 q)) := by
    rw [← cnt_or]
    · refine cnt_congr (fun x hx => ?_)
      rw [Bool.eq_iff_iff]
      constructor
      · intro h
        rw [Kl_iff] at h
        simp only [Bool.or_eq_true, Bool.and_eq_true, decide_eq_true_eq, Bool.not_eq_true', decide_eq_false_iff_not]
        rcases h with h | ⟨h, g⟩
        · rcases enc_lt.1 h with h1 | ⟨_, h3, _⟩
          · left; omega
          · rw [hS] at h3; cases h3
        · obtain ⟨h1, h2⟩ := enc_eq.1 h
          exact .inr ⟨⟨h1.symm, h2.symm.trans hS⟩, Kl_iff.2 (.inr ⟨h, g⟩)⟩
      · intro h
        simp only [Bool.or_eq_true, Bool.and_eq_true, decide_eq_true_eq, Bool.not_eq_true', decide_eq_false_iff_not] at h
        rcases h with h | h
        · exact Kl_iff.2 (.inl (enc_lt.2 (.inl (by omega))))
        · exact h.2
    · intro x _ h1 h2
      simp only [Bool.and_eq_true, decide_eq_true_eq, Bool.not_eq_true', decide_eq_false_iff_not] at h1 h2
      omega
  have e2 : cnt s (fun q => ll (K s e0 q) (K s e0 j) || (decide (q = j) || ll (K s e0 j) (K s e0 q))) = s.length := by
    have : cnt s (fun q => ll (K s e0 q) (K s e0 j) || (decide (q = j) || ll (K s e0 j) (K s e0 q))) = cnt s (fun _ => true) := by
      refine cnt_congr (fun x hx => ?_)
      by_cases e : x = j
      · simp [e]
      · rcases ll_total (fun e2 => e (K_inj H _ x j rfl hx hj e2)) with g | g <;> simp [g]
    rw [this]; unfold cnt; rw [List.countP_true, List.length_range]
  rw [cnt_or, cnt_or, cnt_one hj (p := fun q => decide (q = j)) (by simp)] at e2
  · have e3 := cnt_not (s := s) (fun q => decide (c s q ≤ c s j))
    unfold idx tail
    omega
  · intro x _ h1 h2; simp at h1; subst h1; rw [ll_irrefl] at h2; cases h2
  · intro x _ h1 h2
    simp only [Bool.or_eq_true, decide_eq_true_eq] at h2
    rcases h2 with h2 | h2
    · subst h2; rw [ll_irrefl] at h1; cases h1
    · rw [ll_asymm h1] at h2; cases h2
theorem S_bounds (H : Init s e0) {j : Nat} (hj : j < s.length) (hS : sm s j = true) : mid s (c s j) ≤ idx s e0 j ∧ idx s e0 j < tail s (c s j) := by
  have h := idx_S H hj hS
  have h2 := tail_mid (s := s) (c s j)
  have h3 : cnt s (fun q => (decide (c s q = c s j) && sm s q) && ll (K s e0 j) (K s e0 q)) < cnt s (fun q => decide (c s q = c s j) && sm s q) := by
    refine cnt_lt (a := j) hj (fun x _ h => ?_) ?_ ?_
    · simp only [Bool.and_eq_true] at h; simp only [Bool.and_eq_true]; exact h.1
    · simp [ll_irrefl]
    · simp [hS]
  omega

/-! ### where a suffix is met -/
theorem loc_end {u : Nat} (h : s.length ≤ u) : loc s e0 u = 0 := by unfold loc; rw [if_pos h]
theorem loc_lms {u : Nat} (h : lms s u = true) : loc s e0 u = e0 u + 1 := by
  have := lms_lt h
  unfold loc; rw [if_neg (by omega), if_pos h]
theorem loc_L {u : Nat} (hu : u < s.length) (h : sm s u = false) : loc s e0 u = idx s e0 u + 1 := by
  unfold loc; rw [if_neg (by omega), if_neg (by rw [l_not_lms h]; simp)]
theorem kN_L {u : Nat} (hu : u < s.length) (h : sm s u = false) : kN s e0 u = K s e0 u := kN_step hu (l_not_lms h)

theorem kl_loc (H : Init s e0) {u v : Nat} (hu : X s u) (hv : X s v) : ll (kN s e0 u) (kN s e0 v) = true ↔ loc s e0 u < loc s e0 v := by
  rcases hv with hv | ⟨hv, hv2⟩
  · rw [kN_end (u := v) (Nat.le_of_eq hv.symm), ll_nil_r, loc_end (u := v) (Nat.le_of_eq hv.symm)]; simp
  rcases hu with hu | ⟨hu, hu2⟩
  · rw [kN_end (u := u) (Nat.le_of_eq hu.symm), loc_end (u := u) (Nat.le_of_eq hu.symm)]
    rcases hv2 with g | g
    · rw [kN_L hv g, loc_L hv g]; simp [K, ll]
    · rw [kN_lms g, loc_lms g]; simp [ll]
  rcases hu2 with g | g
  · rw [kN_L hu g, loc_L hu g]
    have b1 := L_bounds (e0 := e0) hu g
    rcases hv2 with g2 | g2
    · rw [kN_L hv g2, loc_L hv g2, Kl_idx H hu hv]; omega
    · have s2 := (lms_iff.1 g2).2.1
      have l2 := H.lo v g2
      have h2 := H.hi v g2
      rw [kN_lms g2, loc_lms g2]
      unfold K
      rw [ll_cons]
      have hne : enc s u ≠ enc s v := fun e => by have := (enc_eq.1 e).2; rw [g, s2] at this; cases this
      constructor
      · rintro (h | ⟨h, _⟩)
        · rcases enc_lt.1 h with h | ⟨h, _⟩
          · have := tail_le_head (s := s) h
            have := mid_le_tail (s := s) (c s u)
            have := head_le_mid (s := s) (c s v)
            omega
          · rw [h] at b1; omega
        · exact absurd h hne
      · intro h
        left
        rw [enc_lt]
        rcases Nat.lt_trichotomy (c s u) (c s v) with e | e | e
        · exact .inl e
        · exact .inr ⟨e, g, s2⟩
        · have := tail_le_head (s := s) e; omega
  · have s1 := (lms_iff.1 g).2.1
    have l1 := H.lo u g
    have h1 := H.hi u g
    rw [kN_lms g, loc_lms g]
    rcases hv2 with g2 | g2
    · have b2 := L_bounds (e0 := e0) hv g2
      rw [kN_L hv g2, loc_L hv g2]
      unfold K
      rw [ll_cons]
      have hne : enc s u ≠ enc s v := fun e => by have := (enc_eq.1 e).2; rw [g2, s1] at this; cases this
      constructor
      · rintro (h | ⟨h, _⟩)
        · rcases enc_lt.1 h with h | ⟨_, h, _⟩
          · have := tail_le_head (s := s) h; omega
          · rw [s1] at h; cases h
        · exact absurd h hne
      · intro h
        left
        rw [enc_lt]
        rcases Nat.lt_trichotomy (c s u) (c s v) with e | e | e
        · exact .inl e
        · rw [e] at l1; omega
        · have := tail_le_head (s := s) e
          have := mid_le_tail (s := s) (c s v)
          have := head_le_mid (s := s) (c s u)
          omega
    · have s2 := (lms_iff.1 g2).2.1
      have l2 := H.lo v g2
      have h2 := H.hi v g2
      rw [kN_lms g2, loc_lms g2, ll_cons, ll_cons]
      constructor
      · rintro (h | ⟨_, h | ⟨_, h⟩⟩)
        · rcases enc_lt.1 h with h | ⟨_, h, _⟩
          · have := tail_le_head (s := s) h
            have := head_le_mid (s := s) (c s v)
            omega
          · rw [s1] at h; cases h
        · omega
        · simp [ll] at h
      · intro h
        rcases Nat.lt_trichotomy (c s u) (c s v) with e | e | e
        · exact .inl (enc_lt.2 (.inl e))
        · exact .inr ⟨enc_eq.2 ⟨e, s1.trans s2.symm⟩, .inl (by omega)⟩
        · have := tail_le_head (s := s) e
          have := head_le_mid (s := s) (c s u)
          omega
theorem loc_inj (H : Init s e0) {u v : Nat} (hu : X s u) (hv : X s v) (h : loc s e0 u = loc s e0 v) : u = v := by
  refine kN_inj H _ u v rfl hu hv ?_
  by_cases e : kN s e0 u = kN s e0 v
  · exact e
  · rcases ll_total e with g | g
    · have := (kl_loc H hu hv).1 g; omega
    · have := (kl_loc H hv hu).1 g; omega

theorem kN_down : ∀ (d p : Nat), s.length - p = d → p < s.length → sm s p = false → ll (kN s e0 (p + 1)) (kN s e0 p) = true
  | 0, p, hd, hp, h => by omega
  | d + 1, p, hd, hp, h => by
    rw [kN_L hp h]
    rcases l_next hp h with e | ⟨e, e2⟩
    · rw [kN_end (Nat.le_of_eq e.symm)]; rfl
    · obtain ⟨g1, g2, g3⟩ := l_ge e h
      rcases e2 with e2 | e2
      · rw [kN_L e e2, Kl_iff]
        by_cases e3 : c s (p + 1) = c s p
        · refine .inr ⟨enc_eq.2 ⟨e3, e2.trans h.symm⟩, ?_⟩
          have := kN_down d (p + 1) (by omega) e e2
          exact this
        · exact .inl (enc_lt.2 (.inl (by omega)))
      · rw [kN_lms e2]
        unfold K
        rw [ll_cons]
        exact .inl (enc_lt.2 (.inl (g2 (lms_iff.1 e2).2.1)))
theorem loc_next (H : Init s e0) {p : Nat} (hp : p < s.length) (h : sm s p = false) : loc s e0 (p + 1) ≤ idx s e0 p := by
  have h1 := kN_down (e0 := e0) _ p rfl hp h
  have h2 := (kl_loc H (X_next hp h) (.inr ⟨hp, .inl h⟩)).1 h1
  rw [loc_L hp h] at h2; omega
theorem K_up : ∀ (d p : Nat), s.length - p = d → p < s.length → sm s p = true → ll (K s e0 p) (K s e0 (p + 1)) = true
  | 0, p, hd, hp, h => by omega
  | d + 1, p, hd, hp, h => by
    obtain ⟨g1, g2, g3⟩ := s_le h
    have h1 := sm_lt h
    rw [Kl_iff]
    by_cases e : c s p = c s (p + 1)
    · have g4 := g3 e
      refine .inr ⟨enc_eq.2 ⟨e, h.trans g4.symm⟩, ?_⟩
      rw [kN_step h1 (s_next h), kN_step (sm_lt g4) (s_next g4)]
      exact K_up d (p + 1) (by omega) h1 g4
    · exact .inl (enc_lt.2 (.inl (by omega)))
theorem idx_next (H : Init s e0) {p : Nat} (h : sm s p = true) : idx s e0 p < idx s e0 (p + 1) :=
  (Kl_idx H (by have := sm_lt h; omega) (sm_lt h)).1 (K_up _ p rfl (by have := sm_lt h; omega) h)
end Go.Proofs.Qxb6606288a.Sais
