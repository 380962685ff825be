/-
  Naming the LMS substrings; the shorter string; from its order to the order of all suffixes: plain. Not trusted: the kernel checks it.
-/
import Derived.Test.Qxb6606288aSufD
namespace Go.Proofs.Qxb6606288a.Sais
set_option linter.unusedVariables false

variable {s : List Nat}

/-! ### the LMS positions are far apart -/
theorem lms_apart {u : Nat} (h : lms s u = true) : lms s (u + 1) = false := s_next (lms_iff.1 h).2.1
theorem P1_get {i : Nat} (hi : i < (P1 s).length) : lms s (P1 s)[i] = true := P1_mem.1 (List.getElem_mem hi)
theorem P1_gap {i j : Nat} (h : i < j) (hj : j < (P1 s).length) : (P1 s)[i] + 2 ≤ (P1 s)[j] := by
  have h1 := List.pairwise_iff_getElem.1 (P1_sorted (s := s)) i j (by omega) hj h
  have h2 := P1_get (s := s) (show i < (P1 s).length by omega)
  have h3 := P1_get hj
  by_cases e : (P1 s)[j] = (P1 s)[i] + 1
  · have := lms_apart h2
    rw [← e, h3] at this; cases this
  · omega
theorem P1_ge : ∀ (i : Nat) (hi : i < (P1 s).length), 2 * i + 1 ≤ (P1 s)[i]
  | 0, hi => by have := (lms_iff.1 (P1_get hi)).1; omega
  | i + 1, hi => by
    have h1 := P1_ge i (by omega)
    have h2 := P1_gap (show i < i + 1 by omega) hi
    omega
theorem P1_half : 2 * (P1 s).length ≤ s.length := by
  by_cases h : (P1 s).length = 0
  · omega
  · have h1 := P1_ge (s := s) ((P1 s).length - 1) (by omega)
    have h2 := lms_lt (P1_get (s := s) (show (P1 s).length - 1 < (P1 s).length by omega))
    omega
theorem half_lt {u : Nat} (h : lms s u = true) : u / 2 < s.length - (P1 s).length := by
  have h1 := P1_half (s := s)
  have h2 := lms_lt h
  omega
theorem half_inj {u v : Nat} (hu : lms s u = true) (hv : lms s v = true) (h : u / 2 = v / 2) : u = v := by
  by_cases e : v = u + 1
  · have := lms_apart hu; rw [← e, hv] at this; cases this
  · by_cases e2 : u = v + 1
    · have := lms_apart hv; rw [← e2, hu] at this; cases this
    · omega

/-! ### ranks along a list -/
def rkf (s R : List Nat) : Nat → Nat
  | 0 => 0
  | i + 1 => rkf s R i + if W s (R.getD i 0) = W s (R.getD (i + 1) 0) then 0 else 1
variable {R : List Nat}
theorem rk_step_le (i : Nat) : rkf s R i ≤ rkf s R (i + 1) ∧ rkf s R (i + 1) ≤ rkf s R i + 1 := by
  simp only [rkf]
  split <;> omega
theorem rk_mono : ∀ (j i : Nat), i ≤ j → rkf s R i ≤ rkf s R j
  | 0, i, h => by have : i = 0 := by omega
                  subst this; exact Nat.le_refl _
  | j + 1, i, h => by
    by_cases e : i = j + 1
    · subst e; exact Nat.le_refl _
    · exact Nat.le_trans (rk_mono j i (by omega)) (rk_step_le j).1
theorem rk_le (i : Nat) : rkf s R i ≤ i := by
  induction i with
  | zero => exact Nat.le_refl _
  | succ i ih => have := (rk_step_le (s := s) (R := R) i).2; omega
theorem rk_grow (i : Nat) : ∀ d, rkf s R (i + d) ≤ rkf s R i + d
  | 0 => Nat.le_refl _
  | d + 1 => by have := rk_grow i d; have := (rk_step_le (s := s) (R := R) (i + d)).2; rw [← Nat.add_assoc]; omega
theorem rk_eq : ∀ (j i : Nat), i ≤ j → rkf s R i = rkf s R j → W s (R.getD i 0) = W s (R.getD j 0)
  | 0, i, h, _ => by have : i = 0 := by omega
                     subst this; rfl
  | j + 1, i, h, he => by
    by_cases e : i = j + 1
    · subst e; rfl
    · have h1 := rk_mono (s := s) (R := R) j i (by omega)
      have h2 := (rk_step_le (s := s) (R := R) j).1
      have h3 := rk_eq j i (by omega) (by omega)
      rw [h3]
      by_cases g : W s (R.getD j 0) = W s (R.getD (j + 1) 0)
      · exact g
      · have : rkf s R (j + 1) = rkf s R j + 1 := by simp only [rkf]; rw [if_neg g]
        omega
theorem rk_lt (hadj : ∀ k, k + 1 < R.length → W s (R.getD k 0) = W s (R.getD (k + 1) 0) ∨ ll (W s (R.getD k 0)) (W s (R.getD (k + 1) 0)) = true) : ∀ (j i : Nat), i ≤ j → j < R.length → rkf s R i < rkf s R j → ll (W s (R.getD i 0)) (W s (R.getD j 0)) = true
  | 0, i, h, _, hl => by have : i = 0 := by omega
                         subst this; omega
  | j + 1, i, h, hj, hl => by
    by_cases e : i = j + 1
    · subst e; omega
    · by_cases g : W s (R.getD j 0) = W s (R.getD (j + 1) 0)
      · have : rkf s R (j + 1) = rkf s R j := by simp only [rkf]; rw [if_pos g]; rfl
        rw [← g]
        exact rk_lt hadj j i (by omega) (by omega) (by omega)
      · have g2 : ll (W s (R.getD j 0)) (W s (R.getD (j + 1) 0)) = true := by
          rcases hadj j hj with k | k
          · exact absurd k g
          · exact k
        by_cases k : rkf s R i = rkf s R j
        · rw [rk_eq j i (by omega) k]; exact g2
        · have := rk_mono (s := s) (R := R) j i (by omega)
          exact ll_trans (rk_lt hadj j i (by omega) (by omega) (by omega)) g2

/-! ### the LMS positions in the order of the first induction -/
section
variable (s)
def R1 : List Nat := (U s (eP s (P1 s))).filter (fun i => lms s i)
def rankOf (u : Nat) : Nat := rkf s (R1 s) ((R1 s).idxOf u)
def red : List Nat := (P1 s).map (rankOf s)
end
theorem P1_all : AllL s (P1 s) := List.Perm.refl _
theorem R1_perm : (R1 s).Perm (P1 s) := List.Perm.filter _ U_perm
theorem R1_len : (R1 s).length = (P1 s).length := R1_perm.length_eq
theorem R1_mem {u : Nat} : u ∈ R1 s ↔ lms s u = true := by rw [R1_perm.mem_iff]; exact P1_mem
theorem R1_nodup : (R1 s).Nodup := R1_perm.nodup_iff.2 P1_nodup
theorem getD_get {l : List Nat} {i : Nat} (h : i < l.length) : l.getD i 0 = l[i] := by simp [List.getD_eq_getElem?_getD, h]
theorem R1_adj (k : Nat) (hk : k + 1 < (R1 s).length) : W s ((R1 s).getD k 0) = W s ((R1 s).getD (k + 1) 0) ∨ ll (W s ((R1 s).getD k 0)) (W s ((R1 s).getD (k + 1) 0)) = true := by
  rw [getD_get (by omega), getD_get hk]
  have h1 : (R1 s).Pairwise (fun a b => ll (K s (eP s (P1 s)) a) (K s (eP s (P1 s)) b) = true) := List.Pairwise.filter _ (U_sorted P1_all.init)
  have h2 := List.pairwise_iff_getElem.1 h1 k (k + 1) (by omega) hk (by omega)
  have m1 := lms_lt (R1_mem.1 (List.getElem_mem (show k < (R1 s).length by omega)))
  have m2 := lms_lt (R1_mem.1 (List.getElem_mem hk))
  exact K_W (by omega) (by omega) h2
theorem rank_at {i : Nat} (hi : i < (R1 s).length) : rankOf s (R1 s)[i] = rkf s (R1 s) i := by
  unfold rankOf
  rw [R1_nodup.idxOf_getElem i hi]
theorem rank_get {u : Nat} (hu : lms s u = true) : ∃ i, ∃ hi : i < (R1 s).length, (R1 s)[i] = u ∧ rankOf s u = rkf s (R1 s) i := by
  obtain ⟨i, hi, e⟩ := List.mem_iff_getElem.1 (R1_mem.2 hu)
  exact ⟨i, hi, e, by rw [← e]; exact rank_at hi⟩
theorem rank_lt {u v : Nat} (hu : lms s u = true) (hv : lms s v = true) (h : rankOf s u < rankOf s v) : lt s u v := by
  obtain ⟨i, hi, e1, g1⟩ := rank_get hu
  obtain ⟨j, hj, e2, g2⟩ := rank_get hv
  rw [g1, g2] at h
  have hij : i ≤ j := by
    by_cases k : i ≤ j
    · exact k
    · have := rk_mono (s := s) (R := R1 s) i j (by omega); omega
  have := rk_lt R1_adj j i hij hj h
  rw [getD_get hi, getD_get hj, e1, e2] at this
  exact W_lt (by have := lms_lt hu; omega) (by have := lms_lt hv; omega) this
theorem rank_eq {u v : Nat} (hu : lms s u = true) (hv : lms s v = true) (h : rankOf s u = rankOf s v) : W s u = W s v := by
  obtain ⟨i, hi, e1, g1⟩ := rank_get hu
  obtain ⟨j, hj, e2, g2⟩ := rank_get hv
  rw [g1, g2] at h
  rcases Nat.le_total i j with k | k
  · have := rk_eq (s := s) (R := R1 s) j i k h
    rw [getD_get hi, getD_get hj, e1, e2] at this; exact this
  · have := rk_eq (s := s) (R := R1 s) i j k h.symm
    rw [getD_get hi, getD_get hj, e1, e2] at this; exact this.symm

/-! ### the shorter string -/
theorem red_len : (red s).length = (P1 s).length := by unfold red; simp
theorem red_c {i : Nat} (hi : i < (P1 s).length) : c (red s) i = rankOf s (P1 s)[i] := by
  unfold c red
  simp [List.getD_eq_getElem?_getD, hi]
theorem P1_next {i d : Nat} (hi : i < (P1 s).length) (h1 : lms s ((P1 s)[i] + 1 + d) = true) (h2 : ∀ e, e < d → lms s ((P1 s)[i] + 1 + e) = false) : ∃ h : i + 1 < (P1 s).length, (P1 s)[i + 1] = (P1 s)[i] + 1 + d := by
  obtain ⟨k, hk, e⟩ := List.mem_iff_getElem.1 (P1_mem.2 h1)
  have hik : i < k := by
    by_cases g : i < k
    · exact g
    · by_cases g2 : k = i
      · subst g2; omega
      · have := P1_gap (s := s) (show k < i by omega) hi; omega
  refine ⟨by omega, ?_⟩
  by_cases g : k = i + 1
  · subst g; exact e
  · have a1 := P1_gap (s := s) (show i + 1 < k by omega) hk
    have a2 := P1_gap (s := s) (show i < i + 1 by omega) (show i + 1 < (P1 s).length by omega)
    have a3 := h2 ((P1 s)[i + 1] - ((P1 s)[i] + 1)) (by omega)
    rw [show (P1 s)[i] + 1 + ((P1 s)[i + 1] - ((P1 s)[i] + 1)) = (P1 s)[i + 1] by omega, P1_get] at a3
    cases a3
theorem red_lt : ∀ (d i j : Nat), (P1 s).length - i = d → ∀ (hi : i < (P1 s).length) (hj : j < (P1 s).length), i ≠ j → lt (red s) i j → lt s (P1 s)[i] (P1 s)[j]
  | 0, i, j, hd, hi, hj, hne, h => by omega
  | d + 1, i, j, hd, hi, hj, hne, h => by
    rw [lt_iff (by rw [red_len]; exact hi) (by rw [red_len]; exact hj), red_c hi, red_c hj] at h
    have u1 := P1_get hi
    have u2 := P1_get hj
    rcases h with h | ⟨h1, h2⟩
    · exact rank_lt u1 u2 h
    · have hw := rank_eq u1 u2 h1
      have hpq : (P1 s)[i] ≠ (P1 s)[j] := by
        intro e
        rcases Nat.lt_or_gt_of_ne hne with k | k
        · have := P1_gap (s := s) k hj; omega
        · have := P1_gap (s := s) k hi; omega
      obtain ⟨f, f1, f2, f3, f4⟩ := W_eq (by have := lms_lt u1; omega) (by have := lms_lt u2; omega) hpq hw
      obtain ⟨n1, n2⟩ := P1_next hi f1 (fun e he => (f3 e he).1)
      obtain ⟨n3, n4⟩ := P1_next hj f2 (fun e he => (f3 e he).2)
      have := red_lt d (i + 1) (j + 1) (by omega) n1 n3 (by omega) h2
      rw [n2, n4] at this
      exact f4 this

/-- from the order of the shorter string's suffixes to that of the LMS suffixes -/
theorem lift_order {O : List Nat} (h : IsSA (red s) O) : AllL s (O.map (fun i => (P1 s).getD i 0)) ∧ (O.map (fun i => (P1 s).getD i 0)).Pairwise (lt s) := by
  obtain ⟨h1, h2⟩ := h
  rw [red_len] at h1
  refine ⟨?_, ?_⟩
  · have e : (List.range (P1 s).length).map (fun i => (P1 s).getD i 0) = P1 s := by
      apply List.ext_getElem
      · simp
      · intro i h3 h4
        simp [List.getD_eq_getElem?_getD, h4]
    have := h1.map (fun i => (P1 s).getD i 0)
    rw [e] at this; exact this
  · rw [List.pairwise_map]
    have h3 : O.Pairwise (fun a b => a < (P1 s).length ∧ b < (P1 s).length) := by
      refine List.pairwise_iff_forall_sublist.2 (fun {a b} h => ?_)
      exact ⟨List.mem_range.1 (h1.mem_iff.1 (h.subset (by simp))), List.mem_range.1 (h1.mem_iff.1 (h.subset (by simp)))⟩
    have h4 : O.Nodup := h1.nodup_iff.2 List.nodup_range
    refine pw_map ?_ ((h2.and h3).and h4)
    rintro a b ⟨⟨g1, g2, g3⟩, g4⟩
    rw [getD_get g2, getD_get g3]
    exact red_lt _ a b rfl g2 g3 g4 g1

/-! ### ranks that are all different -/
theorem rank_full (hm : 0 < (P1 s).length) (h : rkf s (R1 s) ((P1 s).length - 1) + 1 = (P1 s).length) {i : Nat} (hi : i < (P1 s).length) : rkf s (R1 s) i = i := by
  have h1 := rk_le (s := s) (R := R1 s) i
  have h2 := rk_grow (s := s) (R := R1 s) i ((P1 s).length - 1 - i)
  rw [show i + ((P1 s).length - 1 - i) = (P1 s).length - 1 by omega] at h2
  omega
theorem rank_bound {u : Nat} (hu : lms s u = true) : rankOf s u ≤ rkf s (R1 s) ((P1 s).length - 1) := by
  obtain ⟨i, hi, e1, g1⟩ := rank_get hu
  rw [g1]
  rw [R1_len] at hi
  exact rk_mono _ i (by omega)
theorem red_bound {i : Nat} (hi : i < (P1 s).length) : c (red s) i ≤ rkf s (R1 s) ((P1 s).length - 1) := by
  rw [red_c hi]; exact rank_bound (P1_get hi)
/-- each rank once: the inverse of the ranks is the order -/
theorem full_order (hm : 0 < (P1 s).length) (h : rkf s (R1 s) ((P1 s).length - 1) + 1 = (P1 s).length) (o : Nat → Nat) (ho : ∀ i, i < (P1 s).length → o (c (red s) i) = i) :
    IsSA (red s) ((List.range (P1 s).length).map o) := by
  have hsur : ∀ r, r < (P1 s).length → ∃ i, i < (P1 s).length ∧ c (red s) i = r := by
    intro r hr
    have hr' : r < (R1 s).length := by rw [R1_len]; exact hr
    have g := R1_mem.1 (List.getElem_mem hr')
    obtain ⟨i, hi, e⟩ := List.mem_iff_getElem.1 (P1_mem.2 g)
    exact ⟨i, hi, by rw [red_c hi, e, rank_at hr', rank_full hm h hr]⟩
  have hval : ∀ i, i < (P1 s).length → c (red s) i < (P1 s).length := fun i hi => by have := red_bound hi; omega
  have hnd : ((List.range (P1 s).length).map o).Nodup := by
    unfold List.Nodup
    rw [List.pairwise_map]
    refine List.pairwise_iff_getElem.2 (fun i j hi hj hij => ?_)
    rw [List.getElem_range, List.getElem_range]
    rw [List.length_range] at hi hj
    obtain ⟨a, ha, ea⟩ := hsur i hi
    obtain ⟨b, hb, eb⟩ := hsur j hj
    intro e
    rw [← ea, ← eb, ho a ha, ho b hb] at e
    subst e; omega
  refine ⟨?_, ?_⟩
  · rw [red_len]
    refine (List.perm_ext_iff_of_nodup hnd List.nodup_range).2 (fun x => ?_)
    rw [List.mem_map, List.mem_range]
    constructor
    · rintro ⟨r, hr, rfl⟩
      obtain ⟨a, ha, ea⟩ := hsur r (List.mem_range.1 hr)
      rw [← ea, ho a ha]; exact ha
    · intro hx
      exact ⟨c (red s) x, List.mem_range.2 (hval x hx), ho x hx⟩
  · rw [List.pairwise_map]
    refine List.pairwise_iff_getElem.2 (fun i j hi hj hij => ?_)
    rw [List.getElem_range, List.getElem_range]
    rw [List.length_range] at hi hj
    obtain ⟨a, ha, ea⟩ := hsur i hi
    obtain ⟨b, hb, eb⟩ := hsur j hj
    rw [← ea, ← eb, ho a ha, ho b hb]
    exact (lt_iff (by rw [red_len]; exact ha) (by rw [red_len]; exact hb)).2 (.inl (by omega))

/-- the whole of it: laid in the order of the LMS suffixes, the two passes give the order of all -/
theorem final_order {O : List Nat} (h : IsSA (red s) O) : IsSA s (U s (eP s (O.map (fun i => (P1 s).getD i 0)))) := by
  obtain ⟨h1, h2⟩ := lift_order h
  exact U_isSA h1.init (h1.true_order h2)
end Go.Proofs.Qxb6606288a.Sais
