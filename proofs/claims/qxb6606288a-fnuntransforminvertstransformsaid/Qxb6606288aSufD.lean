/-
  The LMS suffixes: where they are laid, their substrings: plain. Not trusted: the kernel checks it.
-/
import Derived.Test.Qxb6606288aSufC
namespace Go.Proofs.Qxb6606288a.Sais
set_option linter.unusedVariables false

variable {s : List Nat} {e0 : Nat → Nat} {A0 : Nat → Int}

/-! ### from the LMS suffixes in order: all suffixes in order -/
theorem enc_lt_lt {p q : Nat} (hp : p < s.length) (hq : q < s.length) (h : enc s p < enc s q) : lt s p q := by
  rcases enc_lt.1 h with h | ⟨h1, h2, h3⟩
  · exact (lt_iff hp hq).2 (.inl h)
  · exact l_before hp hq h1 h2 h3
theorem eq_lt {p q : Nat} (hp : p < s.length) (hq : q < s.length) (h : enc s p = enc s q) (h2 : lt s (p + 1) (q + 1)) : lt s p q :=
  (lt_iff hp hq).2 (.inr ⟨(enc_eq.1 h).1, h2⟩)

theorem kN_true (hP : ∀ u v, lms s u = true → lms s v = true → c s u = c s v → e0 u < e0 v → lt s u v) : ∀ (d u v : Nat), s.length - u = d → X s u → X s v → ll (kN s e0 u) (kN s e0 v) = true → lt s u v
  | d, u, v, hd, hu, hv, h => by
    rcases hv with hv | ⟨hv, hv2⟩
    · rw [kN_end (u := v) (Nat.le_of_eq hv.symm), ll_nil_r] at h; cases h
    rcases hu with hu | ⟨hu, hu2⟩
    · rw [hu]; exact lt_end hv
    rcases hu2 with g | g
    · rw [kN_L hu g] at h
      rcases hv2 with g2 | g2
      · rw [kN_L hv g2, Kl_iff] at h
        rcases h with h | ⟨h1, h2⟩
        · exact enc_lt_lt hu hv h
        · match d, hd with
          | 0, hd => omega
          | d + 1, hd => exact eq_lt hu hv h1 (kN_true hP d (u + 1) (v + 1) (by omega) (X_next hu g) (X_next hv g2) h2)
      · rw [kN_lms g2] at h
        unfold K at h
        rw [ll_cons] at h
        rcases h with h | ⟨h1, _⟩
        · exact enc_lt_lt hu hv h
        · have := (enc_eq.1 h1).2
          rw [g, (lms_iff.1 g2).2.1] at this; cases this
    · rw [kN_lms g] at h
      rcases hv2 with g2 | g2
      · rw [kN_L hv g2] at h
        unfold K at h
        rw [ll_cons] at h
        rcases h with h | ⟨h1, _⟩
        · exact enc_lt_lt hu hv h
        · have := (enc_eq.1 h1).2
          rw [g2, (lms_iff.1 g).2.1] at this; cases this
      · rw [kN_lms g2, ll_cons, ll_cons] at h
        rcases h with h | ⟨h1, h | ⟨_, h⟩⟩
        · exact enc_lt_lt hu hv h
        · exact hP u v g g2 (enc_eq.1 h1).1 h
        · simp [ll] at h
theorem K_true (hP : ∀ u v, lms s u = true → lms s v = true → c s u = c s v → e0 u < e0 v → lt s u v) : ∀ (d p q : Nat), s.length - p = d → p < s.length → q < s.length → ll (K s e0 p) (K s e0 q) = true → lt s p q
  | 0, p, q, hd, hp, hq, h => by omega
  | d + 1, p, q, hd, hp, hq, h => by
    rw [Kl_iff] at h
    rcases h with h | ⟨h1, h2⟩
    · exact enc_lt_lt hp hq h
    · have g := (enc_eq.1 h1).2
      cases e : sm s p with
      | false =>
        rw [e] at g
        exact eq_lt hp hq h1 (kN_true hP _ (p + 1) (q + 1) rfl (X_next hp e) (X_next hq g.symm) h2)
      | true =>
        rw [e] at g
        have l1 := sm_lt e
        have l2 := sm_lt g.symm
        rw [kN_step l1 (s_next e), kN_step l2 (s_next g.symm)] at h2
        exact eq_lt hp hq h1 (K_true hP d (p + 1) (q + 1) (by omega) l1 l2 h2)

/-- the suffixes in order -/
def IsSA (s : List Nat) (l : List Nat) : Prop := l.Perm (List.range s.length) ∧ l.Pairwise (lt s)
theorem U_isSA (H : Init s e0) (hP : ∀ u v, lms s u = true → lms s v = true → c s u = c s v → e0 u < e0 v → lt s u v) : IsSA s (U s e0) := by
  refine ⟨U_perm, ?_⟩
  have h3 : (U s e0).Pairwise (fun a b => a < s.length ∧ b < s.length) := by
    refine List.pairwise_iff_forall_sublist.2 (fun {a b} h => ?_)
    exact ⟨U_mem.1 (h.subset (by simp)), U_mem.1 (h.subset (by simp))⟩
  refine pw_map ?_ ((U_sorted H).and h3)
  rintro a b ⟨g1, g2, g3⟩
  exact K_true hP _ a b rfl g2 g3 g1

/-! ### the LMS substrings -/
def wNf (s : List Nat) : Nat → Nat → List Nat
  | 0, _ => []
  | f + 1, u => if lms s u = true then [enc s u] else enc s u :: wNf s f (u + 1)
def wN (s : List Nat) (u : Nat) : List Nat := wNf s (s.length - u) u
def W (s : List Nat) (p : Nat) : List Nat := enc s p :: wN s (p + 1)
theorem wN_end {u : Nat} (h : s.length ≤ u) : wN s u = [] := by
  unfold wN; rw [Nat.sub_eq_zero_of_le h]; rfl
theorem wN_lms {u : Nat} (h : lms s u = true) : wN s u = [enc s u] := by
  have := lms_lt h
  unfold wN
  rw [show s.length - u = (s.length - u - 1) + 1 by omega]
  unfold wNf
  rw [if_pos h]
theorem wN_step {u : Nat} (hu : u < s.length) (h : lms s u = false) : wN s u = enc s u :: wN s (u + 1) := by
  unfold wN
  rw [show s.length - u = (s.length - (u + 1)) + 1 by omega]
  conv => lhs; unfold wNf
  rw [if_neg (by rw [h]; simp)]
theorem wN_ne {u : Nat} (hu : u < s.length) : wN s u ≠ [] := by
  cases e : lms s u with
  | false => rw [wN_step hu e]; simp
  | true => rw [wN_lms e]; simp
/-- alike in type, and so were those before: alike in being LMS -/
theorem lms_alike {u v : Nat} (hu : 0 < u) (hv : 0 < v) (h1 : sm s (u - 1) = sm s (v - 1)) (h2 : sm s u = sm s v) : lms s u = lms s v := by
  unfold lms; rw [h1, h2]; simp [hu, hv]

theorem wN_lt : ∀ (d u v : Nat), s.length - u = d → u ≤ s.length → v ≤ s.length → 0 < u → 0 < v → sm s (u - 1) = sm s (v - 1) → ll (wN s u) (wN s v) = true → lt s u v
  | d, u, v, hd, hu, hv, hu0, hv0, ht, h => by
    by_cases ev : v = s.length
    · rw [wN_end (u := v) (Nat.le_of_eq ev.symm), ll_nil_r] at h; cases h
    have hv' : v < s.length := by omega
    by_cases eu : u = s.length
    · rw [eu]; exact lt_end hv'
    have hu' : u < s.length := by omega
    have hd' : ∃ d', d = d' + 1 := ⟨d - 1, by omega⟩
    cases e1 : lms s u with
    | true =>
      rw [wN_lms e1] at h
      cases e2 : lms s v with
      | true =>
        rw [wN_lms e2, ll_cons] at h
        rcases h with h | ⟨_, h⟩
        · exact enc_lt_lt hu' hv' h
        · simp [ll] at h
      | false =>
        rw [wN_step hv' e2, ll_cons] at h
        rcases h with h | ⟨h1, _⟩
        · exact enc_lt_lt hu' hv' h
        · have := lms_alike hu0 hv0 ht (enc_eq.1 h1).2
          rw [e1, e2] at this; cases this
    | false =>
      rw [wN_step hu' e1] at h
      cases e2 : lms s v with
      | true =>
        rw [wN_lms e2, ll_cons] at h
        rcases h with h | ⟨h1, _⟩
        · exact enc_lt_lt hu' hv' h
        · have := lms_alike hu0 hv0 ht (enc_eq.1 h1).2
          rw [e1, e2] at this; cases this
      | false =>
        rw [wN_step hv' e2, ll_cons] at h
        rcases h with h | ⟨h1, h2⟩
        · exact enc_lt_lt hu' hv' h
        · match d, hd with
          | 0, hd => omega
          | d + 1, hd => exact eq_lt hu' hv' h1 (wN_lt d (u + 1) (v + 1) (by omega) (by omega) (by omega) (by omega) (by omega) (by simpa using (enc_eq.1 h1).2) h2)
theorem W_lt {p q : Nat} (hp : p < s.length) (hq : q < s.length) (h : ll (W s p) (W s q) = true) : lt s p q := by
  unfold W at h
  rw [ll_cons] at h
  rcases h with h | ⟨h1, h2⟩
  · exact enc_lt_lt hp hq h
  · exact eq_lt hp hq h1 (wN_lt _ (p + 1) (q + 1) rfl (by omega) (by omega) (by omega) (by omega) (by simpa using (enc_eq.1 h1).2) h2)

theorem kN_wN : ∀ (d u v : Nat), s.length - u = d → u ≤ s.length → v ≤ s.length → 0 < u → 0 < v → sm s (u - 1) = sm s (v - 1) → ll (kN s e0 u) (kN s e0 v) = true → wN s u = wN s v ∨ ll (wN s u) (wN s v) = true
  | d, u, v, hd, hu, hv, hu0, hv0, ht, h => by
    by_cases ev : v = s.length
    · rw [kN_end (u := v) (Nat.le_of_eq ev.symm), ll_nil_r] at h; cases h
    have hv' : v < s.length := by omega
    by_cases eu : u = s.length
    · right; rw [wN_end (u := u) (Nat.le_of_eq eu.symm)]; exact ll_nil_l (wN_ne hv')
    have hu' : u < s.length := by omega
    cases e1 : lms s u with
    | true =>
      rw [kN_lms e1] at h
      rw [wN_lms e1]
      cases e2 : lms s v with
      | true =>
        rw [kN_lms e2, ll_cons] at h
        rw [wN_lms e2]
        rcases h with h | ⟨h1, _⟩
        · exact .inr (ll_cons.2 (.inl h))
        · left; rw [h1]
      | false =>
        rw [kN_step hv' e2] at h
        unfold K at h
        rw [ll_cons] at h
        rw [wN_step hv' e2]
        rcases h with h | ⟨h1, _⟩
        · exact .inr (ll_cons.2 (.inl h))
        · have := lms_alike hu0 hv0 ht (enc_eq.1 h1).2
          rw [e1, e2] at this; cases this
    | false =>
      rw [kN_step hu' e1] at h
      rw [wN_step hu' e1]
      cases e2 : lms s v with
      | true =>
        rw [kN_lms e2] at h
        unfold K at h
        rw [ll_cons] at h
        rw [wN_lms e2]
        rcases h with h | ⟨h1, _⟩
        · exact .inr (ll_cons.2 (.inl h))
        · have := lms_alike hu0 hv0 ht (enc_eq.1 h1).2
          rw [e1, e2] at this; cases this
      | false =>
        rw [kN_step hv' e2, Kl_iff] at h
        rw [wN_step hv' e2]
        rcases h with h | ⟨h1, h2⟩
        · exact .inr (ll_cons.2 (.inl h))
        · match d, hd with
          | 0, hd => omega
          | d + 1, hd =>
            rcases kN_wN d (u + 1) (v + 1) (by omega) (by omega) (by omega) (by omega) (by omega) (by simpa using (enc_eq.1 h1).2) h2 with g | g
            · left; rw [h1, g]
            · exact .inr (ll_cons.2 (.inr ⟨h1, g⟩))
theorem K_W {p q : Nat} (hp : p < s.length) (hq : q < s.length) (h : ll (K s e0 p) (K s e0 q) = true) : W s p = W s q ∨ ll (W s p) (W s q) = true := by
  unfold W
  rw [Kl_iff] at h
  rcases h with h | ⟨h1, h2⟩
  · exact .inr (ll_cons.2 (.inl h))
  · rcases kN_wN _ (p + 1) (q + 1) rfl (by omega) (by omega) (by omega) (by omega) (by simpa using (enc_eq.1 h1).2) h2 with g | g
    · left; rw [h1, g]
    · exact .inr (ll_cons.2 (.inr ⟨h1, g⟩))

/-- alike to the next LMS: the order is that of the next ones -/
theorem wN_eq : ∀ (d u v : Nat), s.length - u = d → u ≤ s.length → v ≤ s.length → 0 < u → 0 < v → u ≠ v → sm s (u - 1) = sm s (v - 1) → wN s u = wN s v →
    ∃ d, lms s (u + d) = true ∧ lms s (v + d) = true ∧ (∀ e, e < d → lms s (u + e) = false ∧ lms s (v + e) = false) ∧ (lt s (u + d) (v + d) → lt s u v)
  | d, u, v, hd, hu, hv, hu0, hv0, hne, ht, h => by
    by_cases ev : v = s.length
    · rw [wN_end (u := v) (Nat.le_of_eq ev.symm)] at h
      by_cases eu : u = s.length
      · omega
      · exact absurd h (wN_ne (by omega))
    have hv' : v < s.length := by omega
    by_cases eu : u = s.length
    · rw [wN_end (u := u) (Nat.le_of_eq eu.symm)] at h
      exact absurd h.symm (wN_ne hv')
    have hu' : u < s.length := by omega
    have henc : enc s u = enc s v := by
      cases e1 : lms s u <;> cases e2 : lms s v
      · rw [wN_step hu' e1, wN_step hv' e2] at h; exact (List.cons.inj h).1
      · rw [wN_step hu' e1, wN_lms e2] at h; exact (List.cons.inj h).1
      · rw [wN_lms e1, wN_step hv' e2] at h; exact (List.cons.inj h).1
      · rw [wN_lms e1, wN_lms e2] at h; exact (List.cons.inj h).1
    have hlm := lms_alike hu0 hv0 ht (enc_eq.1 henc).2
    cases e1 : lms s u with
    | true =>
      rw [e1] at hlm
      exact ⟨0, e1, hlm.symm, fun e he => by omega, fun h => h⟩
    | false =>
      rw [e1] at hlm
      rw [wN_step hu' e1, wN_step hv' hlm.symm] at h
      match d, hd with
      | 0, hd => omega
      | d + 1, hd =>
        obtain ⟨f, f1, f2, f3, f4⟩ := wN_eq d (u + 1) (v + 1) (by omega) (by omega) (by omega) (by omega) (by omega) (by omega) (by simpa using (enc_eq.1 henc).2) (List.cons.inj h).2
        refine ⟨f + 1, by rw [show u + (f + 1) = u + 1 + f by omega]; exact f1, by rw [show v + (f + 1) = v + 1 + f by omega]; exact f2, fun e he => ?_, fun h => ?_⟩
        · cases e with
          | zero => exact ⟨e1, hlm.symm⟩
          | succ e =>
            rw [show u + (e + 1) = u + 1 + e by omega, show v + (e + 1) = v + 1 + e by omega]
            exact f3 e (by omega)
        · rw [show u + (f + 1) = u + 1 + f by omega, show v + (f + 1) = v + 1 + f by omega] at h
          exact eq_lt hu' hv' henc (f4 h)
theorem W_eq {p q : Nat} (hp : p < s.length) (hq : q < s.length) (hne : p ≠ q) (h : W s p = W s q) :
    ∃ d, lms s (p + 1 + d) = true ∧ lms s (q + 1 + d) = true ∧ (∀ e, e < d → lms s (p + 1 + e) = false ∧ lms s (q + 1 + e) = false) ∧ (lt s (p + 1 + d) (q + 1 + d) → lt s p q) := by
  unfold W at h
  obtain ⟨h1, h2⟩ := List.cons.inj h
  obtain ⟨f, f1, f2, f3, f4⟩ := wN_eq _ (p + 1) (q + 1) rfl (by omega) (by omega) (by omega) (by omega) (by omega) (by simpa using (enc_eq.1 h1).2) h2
  exact ⟨f, f1, f2, f3, fun g => eq_lt hp hq h1 (f4 g)⟩

/-! ### the LMS positions in the order of the text -/
def P1 (s : List Nat) : List Nat := (List.range s.length).filter (fun i => lms s i)
theorem P1_mem {u : Nat} : u ∈ P1 s ↔ lms s u = true := by
  unfold P1
  rw [List.mem_filter, List.mem_range]
  exact ⟨fun h => h.2, fun h => ⟨by have := lms_lt h; omega, h⟩⟩
theorem P1_sorted : (P1 s).Pairwise (· < ·) := List.Pairwise.filter _ List.pairwise_lt_range
theorem P1_nodup : (P1 s).Nodup := pw_map (fun _ _ h => Nat.ne_of_lt h) P1_sorted

/-! ### where a list of LMS positions is laid, from its last to its first -/
section
variable (s)
def eP : List Nat → Nat → Nat
  | [], _ => 0
  | v :: P, u => if v = u then tail s (c s u) - (v :: P).countP (fun q => decide (c s q = c s u)) else eP P u
def cP (P : List Nat) (t a : Nat) : Nat := (P.drop t).countP (fun q => decide (c s q = a))
end
theorem eP_at : ∀ (P : List Nat), P.Nodup → ∀ (t p : Nat), P[t]? = some p → eP s P p = tail s (c s p) - cP s P t (c s p)
  | [], _, t, p, h => by simp at h
  | v :: P, hn, 0, p, h => by
    simp at h; subst h
    unfold eP cP
    rw [if_pos rfl]; rfl
  | v :: P, hn, t + 1, p, h => by
    obtain ⟨h1, h2⟩ := List.nodup_cons.1 hn
    simp at h
    unfold eP cP
    rw [if_neg (fun e => h1 (by rw [e]; exact List.mem_of_getElem? h))]
    exact eP_at P h2 t p h

/-- a list of all LMS positions, each once -/
def AllL (s P : List Nat) : Prop := P.Perm (P1 s)
theorem AllL.nodup {P : List Nat} (h : AllL s P) : P.Nodup := (List.Perm.nodup_iff h).2 P1_nodup
theorem AllL.mem {P : List Nat} (h : AllL s P) {u : Nat} : u ∈ P ↔ lms s u = true := by rw [List.Perm.mem_iff h]; exact P1_mem
theorem AllL.count {P : List Nat} (h : AllL s P) (f : Nat → Bool) : P.countP f = cnt s (fun q => f q && lms s q) := by
  rw [List.Perm.countP_eq f h]
  unfold P1 cnt
  rw [List.countP_filter]
theorem AllL.cP_le {P : List Nat} (h : AllL s P) (t a : Nat) : cP s P t a ≤ cnt s (fun q => decide (c s q = a) && sm s q) := by
  unfold cP
  have h1 : (P.drop t).countP (fun q => decide (c s q = a)) ≤ P.countP (fun q => decide (c s q = a)) := (List.drop_sublist t P).countP_le
  rw [h.count] at h1
  refine Nat.le_trans h1 (cnt_mono (fun x _ g => ?_))
  simp only [Bool.and_eq_true] at g ⊢
  exact ⟨g.1, (lms_iff.1 g.2).2.1⟩
theorem AllL.cP_tail {P : List Nat} (h : AllL s P) (t a : Nat) : cP s P t a ≤ tail s a := by
  have := h.cP_le t a
  rw [tail_mid]; omega
theorem cP_step {P : List Nat} {t p : Nat} (hp : P[t]? = some p) (a : Nat) : cP s P t a = cP s P (t + 1) a + if a = c s p then 1 else 0 := by
  obtain ⟨h1, h2⟩ := List.getElem?_eq_some_iff.1 hp
  unfold cP
  rw [List.drop_eq_getElem_cons h1, List.countP_cons, h2]
  by_cases e : a = c s p
  · simp [e]
  · simp [e]; exact fun g => e g.symm
theorem cP_anti {P : List Nat} {t u : Nat} (h : t ≤ u) (a : Nat) : cP s P u a ≤ cP s P t a := by
  unfold cP
  have : P.drop u = (P.drop t).drop (u - t) := by rw [List.drop_drop]; congr 1; omega
  rw [this]
  exact (List.drop_sublist _ _).countP_le
theorem cP_end {P : List Nat} {t : Nat} (h : P.length ≤ t) (a : Nat) : cP s P t a = 0 := by
  unfold cP; rw [List.drop_eq_nil_of_le h]; rfl

theorem AllL.eP_lt {P : List Nat} (h : AllL s P) {t u p q : Nat} (hp : P[t]? = some p) (hq : P[u]? = some q) (htu : t < u) (hc : c s p = c s q) : eP s P p < eP s P q := by
  rw [eP_at P h.nodup t p hp, eP_at P h.nodup u q hq, ← hc]
  have h1 := cP_step (s := s) hp (c s p)
  rw [if_pos rfl] at h1
  have h2 := cP_anti (s := s) (P := P) (show t + 1 ≤ u by omega) (c s p)
  have h3 := h.cP_tail t (c s p)
  omega

theorem AllL.init {P : List Nat} (h : AllL s P) : Init s (eP s P) := by
  have hget : ∀ u, lms s u = true → ∃ t, P[t]? = some u := fun u hu => by
    obtain ⟨t, ht, e⟩ := List.mem_iff_getElem.1 (h.mem.2 hu)
    exact ⟨t, by rw [List.getElem?_eq_getElem ht, e]⟩
  have hlo : ∀ u, lms s u = true → mid s (c s u) ≤ eP s P u := fun u hu => by
    obtain ⟨t, ht⟩ := hget u hu
    rw [eP_at P h.nodup t u ht]
    have := h.cP_le t (c s u)
    have := tail_mid (s := s) (c s u)
    omega
  have hhi : ∀ u, lms s u = true → eP s P u < tail s (c s u) := fun u hu => by
    obtain ⟨t, ht⟩ := hget u hu
    rw [eP_at P h.nodup t u ht]
    have h1 := cP_step (s := s) ht (c s u)
    rw [if_pos rfl] at h1
    have h3 := h.cP_tail t (c s u)
    omega
  refine ⟨fun u v hu hv e => ?_, hlo, hhi⟩
  have a1 := hlo u hu
  have a2 := hhi u hu
  have b1 := hlo v hv
  have b2 := hhi v hv
  rcases Nat.lt_trichotomy (c s u) (c s v) with g | g | g
  · have := tail_le_head (s := s) g
    have := head_le_mid (s := s) (c s v)
    omega
  · obtain ⟨t, ht⟩ := hget u hu
    obtain ⟨w, hw⟩ := hget v hv
    rcases Nat.lt_trichotomy t w with k | k | k
    · have := h.eP_lt ht hw k g; omega
    · subst k; rw [ht] at hw; exact Option.some.inj hw
    · have := h.eP_lt hw ht k g.symm; omega
  · have := tail_le_head (s := s) g
    have := head_le_mid (s := s) (c s u)
    omega

theorem AllL.true_order {P : List Nat} (h : AllL s P) (hs : P.Pairwise (lt s)) : ∀ u v, lms s u = true → lms s v = true → c s u = c s v → eP s P u < eP s P v → lt s u v := by
  intro u v hu hv hc he
  obtain ⟨t, ht, e1⟩ := List.mem_iff_getElem.1 (h.mem.2 hu)
  obtain ⟨w, hw, e2⟩ := List.mem_iff_getElem.1 (h.mem.2 hv)
  have g1 : P[t]? = some u := by rw [List.getElem?_eq_getElem ht, e1]
  have g2 : P[w]? = some v := by rw [List.getElem?_eq_getElem hw, e2]
  rcases Nat.lt_trichotomy t w with k | k | k
  · have := List.pairwise_iff_getElem.1 hs t w ht hw k
    rw [e1, e2] at this; exact this
  · subst k
    have : u = v := e1.symm.trans e2
    subst this; omega
  · have := h.eP_lt g2 g1 k hc.symm; omega

/-- sorted: the place is no earlier than the number in the list -/
theorem AllL.eP_ge {P : List Nat} (h : AllL s P) (hs : P.Pairwise (lt s)) {t p : Nat} (hp : P[t]? = some p) : t ≤ eP s P p := by
  rw [eP_at P h.nodup t p hp]
  obtain ⟨ht, e⟩ := List.getElem?_eq_some_iff.1 hp
  have h1 : P.countP (fun q => decide (c s q ≤ c s p)) ≤ tail s (c s p) := by
    rw [h.count]
    exact cnt_mono (fun x _ g => by simp only [Bool.and_eq_true] at g; exact g.1)
  have h2 : P.countP (fun q => decide (c s q ≤ c s p)) = (P.take t).countP (fun q => decide (c s q ≤ c s p)) + (P.drop t).countP (fun q => decide (c s q ≤ c s p)) := by
    conv => lhs; rw [← List.take_append_drop t P]
    rw [List.countP_append]
  have h3 : (P.take t).countP (fun q => decide (c s q ≤ c s p)) = t := by
    rw [List.countP_eq_length.2, List.length_take]
    · omega
    · intro q hq
      obtain ⟨u, hu, rfl⟩ := List.mem_iff_getElem.1 hq
      rw [List.length_take] at hu
      rw [List.getElem_take]
      have hl := List.pairwise_iff_getElem.1 hs u t (by omega) ht (by omega)
      rw [e] at hl
      have m1 := lms_lt (h.mem.1 (List.getElem_mem (show u < P.length by omega)))
      have m2 := lms_lt (h.mem.1 (List.mem_of_getElem? hp))
      rcases (lt_iff (by omega) (by omega)).1 hl with k | ⟨k, _⟩
      · simp; omega
      · simp; omega
  have h4 : cP s P t (c s p) ≤ (P.drop t).countP (fun q => decide (c s q ≤ c s p)) := by
    unfold cP
    exact List.countP_mono_left (fun x _ g => by simp at g ⊢; omega)
  omega
end Go.Proofs.Qxb6606288a.Sais
