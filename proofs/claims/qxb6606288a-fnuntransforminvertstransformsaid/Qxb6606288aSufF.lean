/-
  Untransform undoes the transform, if the order of the suffixes is the true one: plain. Not trusted: the kernel checks it.
-/
import Derived.Test.Qxb6606288aSufE
import Derived.Test.Qxb6606288aUntr
namespace Go.Proofs.Qxb6606288a.Sais
set_option linter.unusedVariables false

variable {s : List Nat}
def ltb (s : List Nat) (i j : Nat) : Bool := ll (s.drop i) (s.drop j)
theorem ltb_iff {i j : Nat} : ltb s i j = true ↔ lt s i j := Iff.rfl

/-- in a sorted list: how many are below -/
theorem count_below {l : List Nat} (hl : l.Pairwise (lt s)) {x q : Nat} (hx : l[x]? = some q) (f : Nat → Bool) : (l.take x).countP f = l.countP (fun v => ltb s v q && f v) := by
  obtain ⟨h1, h2⟩ := List.getElem?_eq_some_iff.1 hx
  conv => rhs; rw [← List.take_append_drop x l]
  rw [List.countP_append]
  have e1 : (l.take x).countP (fun v => ltb s v q && f v) = (l.take x).countP f := by
    refine countP_eq_of _ _ _ (fun v hv => ?_)
    obtain ⟨t, ht, rfl⟩ := List.mem_iff_getElem.1 hv
    rw [List.length_take] at ht
    rw [List.getElem_take]
    have := List.pairwise_iff_getElem.1 hl t x (by omega) h1 (by omega)
    rw [h2] at this
    rw [ltb_iff.2 this]; simp
  have e2 : (l.drop x).countP (fun v => ltb s v q && f v) = 0 := by
    refine List.countP_eq_zero.2 (fun v hv h => ?_)
    obtain ⟨t, ht, rfl⟩ := List.mem_iff_getElem.1 hv
    rw [List.length_drop] at ht
    rw [List.getElem_drop, Bool.and_eq_true] at h
    by_cases e : t = 0
    · subst e
      simp only [Nat.add_zero] at h
      rw [h2] at h; exact lt_irrefl _ (ltb_iff.1 h.1)
    · have := List.pairwise_iff_getElem.1 hl x (x + t) h1 (by omega) (by omega)
      rw [h2] at this
      exact lt_asymm this (ltb_iff.1 h.1)
  rw [e1, e2]; rfl

theorem sa_index {sa : List Nat} (h : IsSA s sa) {q : Nat} (hq : q < s.length) : sa[cnt s (fun v => ltb s v q)]? = some q := by
  obtain ⟨x, hx, e⟩ := List.mem_iff_getElem.1 (h.1.mem_iff.2 (List.mem_range.2 hq))
  have hg : sa[x]? = some q := by rw [List.getElem?_eq_getElem hx, e]
  have h1 := count_below h.2 hg (fun _ => true)
  simp only [Bool.and_true] at h1
  rw [List.countP_true, List.length_take, h.1.countP_eq] at h1
  unfold cnt
  rw [← h1, Nat.min_eq_left (by omega)]; exact hg

/-- the rows' starts, the marker's row left out -/
def V (s sa : List Nat) (p : Nat) : List Nat := (s.length :: sa).eraseIdx p

theorem rows_sorted {sa : List Nat} (h : IsSA s sa) : (s.length :: sa).Pairwise (lt s) :=
  List.pairwise_cons.2 ⟨fun v hv => lt_end (List.mem_range.1 (h.1.mem_iff.1 hv)), h.2⟩
theorem V_sorted {sa : List Nat} (h : IsSA s sa) (p : Nat) : (V s sa p).Pairwise (lt s) := List.Pairwise.sublist (List.eraseIdx_sublist ..) (rows_sorted h)
theorem V_perm {sa : List Nat} (h : IsSA s sa) {p : Nat} (hp : (s.length :: sa)[p]? = some 0) : (V s sa p).Perm ((List.range s.length).map (· + 1)) := by
  obtain ⟨h1, h2⟩ := List.getElem?_eq_some_iff.1 hp
  have e1 : (s.length :: sa).Perm (0 :: V s sa p) := by
    unfold V
    rw [List.eraseIdx_eq_take_drop_succ]
    have : s.length :: sa = (s.length :: sa).take p ++ 0 :: (s.length :: sa).drop (p + 1) := by
      rw [← h2, ← List.drop_eq_getElem_cons h1, List.take_append_drop]
    conv => lhs; rw [this]
    exact List.perm_middle
  have e2 : (s.length :: sa).Perm (0 :: (List.range s.length).map (· + 1)) := by
    rw [← List.range_succ_eq_map, List.range_succ]
    exact (h.1.cons _).trans (List.perm_append_singleton _ _).symm
  exact List.Perm.cons_inv (e1.symm.trans e2)
theorem V_len {sa : List Nat} (h : IsSA s sa) {p : Nat} (hp : (s.length :: sa)[p]? = some 0) : (V s sa p).length = s.length := by
  rw [(V_perm h hp).length_eq]; simp
theorem V_get {sa : List Nat} {p r : Nat} (hr : r ≠ p) : (V s sa p)[Qxb6606288a.idx p r]? = (s.length :: sa)[r]? := by
  unfold V Qxb6606288a.idx
  by_cases h : r ≤ p
  · rw [if_pos h, List.getElem?_eraseIdx, if_pos (by omega)]
  · rw [if_neg h, List.getElem?_eraseIdx, if_neg (by omega), show r - 1 + 1 = r by omega]

variable {sa : List Nat} {p : Nat} {L : Nat → Nat}
theorem cnt_V (hlen : (V s sa p).length = s.length) (hL : ∀ i, i < s.length → L i = c s ((V s sa p).getD i 0 - 1)) (ch : Nat) : ∀ k, k ≤ s.length → Qxb6606288a.cnt L k ch = ((V s sa p).take k).countP (fun v => decide (c s (v - 1) = ch))
  | 0, _ => rfl
  | k + 1, hk => by
    have hk' : k < (V s sa p).length := by omega
    simp only [Qxb6606288a.cnt]
    rw [cnt_V hlen hL ch k (by omega), List.take_succ_eq_append_getElem hk', List.countP_append, hL k (by omega), getD_get hk']
    congr 1
    simp [List.countP_cons]
theorem cum_V (hlen : (V s sa p).length = s.length) (hL : ∀ i, i < s.length → L i = c s ((V s sa p).getD i 0 - 1)) : ∀ ch, Qxb6606288a.cum L s.length ch = 1 + (V s sa p).countP (fun v => decide (c s (v - 1) < ch))
  | 0 => by simp [Qxb6606288a.cum]
  | ch + 1 => by
    simp only [Qxb6606288a.cum]
    rw [cum_V hlen hL ch, cnt_V hlen hL ch s.length (Nat.le_refl _), List.take_of_length_le (by omega), Nat.add_assoc, ← countP_or]
    · congr 1
      refine countP_eq_of _ _ _ (fun x _ => ?_)
      rw [Bool.eq_iff_iff]; simp; omega
    · intro x _ h1 h2; simp at h1 h2; omega

theorem count_V (h : IsSA s sa) (hp : (s.length :: sa)[p]? = some 0) (f : Nat → Bool) : (V s sa p).countP f = cnt s (fun q => f (q + 1)) := by
  rw [(V_perm h hp).countP_eq, List.countP_map]; rfl

/-- the row one byte back -/
theorem lf_row (h : IsSA s sa) (hp : (s.length :: sa)[p]? = some 0) (hL : ∀ i, i < s.length → L i = c s ((V s sa p).getD i 0 - 1)) {r q : Nat} (hr : (s.length :: sa)[r]? = some (q + 1)) (hrn : r ≤ s.length) :
    (s.length :: sa)[Qxb6606288a.lf L s.length (Qxb6606288a.idx p r)]? = some q ∧ Qxb6606288a.lf L s.length (Qxb6606288a.idx p r) ≤ s.length ∧ L (Qxb6606288a.idx p r) = c s q ∧ Qxb6606288a.idx p r < s.length := by
  have hlen := V_len h hp
  have hrp : r ≠ p := fun e => by subst e; rw [hp] at hr; cases hr
  have hv := V_get (s := s) (sa := sa) hrp
  rw [hr] at hv
  obtain ⟨h1, h2⟩ := List.getElem?_eq_some_iff.1 hv
  obtain ⟨i, hi⟩ : ∃ i, Qxb6606288a.idx p r = i := ⟨_, rfl⟩
  rw [hi] at hv ⊢
  have hin : i < s.length := by rw [hi] at h1; omega
  have hLi : L i = c s q := by
    rw [hL i hin, List.getD_eq_getElem?_getD, hv]; rfl
  have hq : q < s.length := by
    have hm := (V_perm h hp).mem_iff.1 (List.mem_of_getElem? hv)
    rw [List.mem_map] at hm
    obtain ⟨a, ha, e⟩ := hm
    have := List.mem_range.1 ha
    omega
  have e1 : Qxb6606288a.lf L s.length i = 1 + cnt s (fun v => ltb s v q) := by
    unfold Qxb6606288a.lf
    rw [hLi, cum_V hlen hL, cnt_V hlen hL _ i (by omega), count_below (V_sorted h p) hv, count_V h hp, count_V h hp, Nat.add_assoc, ← cnt_or]
    · congr 1
      refine cnt_congr (fun x hx => ?_)
      rw [Bool.eq_iff_iff]
      simp only [Bool.or_eq_true, Bool.and_eq_true, decide_eq_true_eq, Nat.add_sub_cancel, ltb_iff]
      rw [lt_iff hx hq]
      constructor
      · rintro (g | ⟨g1, g2⟩)
        · exact .inl g
        · exact .inr ⟨g2, g1⟩
      · rintro (g | ⟨g1, g2⟩)
        · exact .inl g
        · exact .inr ⟨g2, g1⟩
    · intro x _ g1 g2
      simp only [Bool.and_eq_true, decide_eq_true_eq, Nat.add_sub_cancel] at g1 g2
      omega
  have e2 := sa_index h hq
  refine ⟨?_, ?_, hLi, hin⟩
  · rw [e1, Nat.add_comm, List.getElem?_cons_succ]; exact e2
  · have := (List.getElem?_eq_some_iff.1 e2).1
    rw [h.1.length_eq, List.length_range] at this
    omega

theorem rr_row (h : IsSA s sa) (hp : (s.length :: sa)[p]? = some 0) (hL : ∀ i, i < s.length → L i = c s ((V s sa p).getD i 0 - 1)) (hb : ∀ i, L i < 256) : ∀ k, k ≤ s.length → (s.length :: sa)[Qxb6606288a.rr L s.length p k]? = some (s.length - k) ∧ Qxb6606288a.rr L s.length p k ≤ s.length
  | 0, _ => ⟨rfl, Nat.zero_le _⟩
  | k + 1, hk => by
    obtain ⟨h1, h2⟩ := rr_row h hp hL hb k (by omega)
    rw [show s.length - k = (s.length - (k + 1)) + 1 by omega] at h1
    obtain ⟨g1, g2, g3, g4⟩ := lf_row h hp hL h1 h2
    have hne : Qxb6606288a.rr L s.length p k ≠ p := fun e => by rw [e, hp] at h1; cases h1
    simp only [Qxb6606288a.rr]
    unfold Qxb6606288a.rowv
    rw [if_neg hne]
    have hbb := hb (Qxb6606288a.idx p (Qxb6606288a.rr L s.length p k))
    have e : (Qxb6606288a.lf L s.length (Qxb6606288a.idx p (Qxb6606288a.rr L s.length p k)) * 256 + L (Qxb6606288a.idx p (Qxb6606288a.rr L s.length p k))) / 256 = Qxb6606288a.lf L s.length (Qxb6606288a.idx p (Qxb6606288a.rr L s.length p k)) := by omega
    rw [e]
    exact ⟨g1, g2⟩

/-- UNTRANSFORM UNDOES THE TRANSFORM -/
theorem invert (h : IsSA s sa) (hp : (s.length :: sa)[p]? = some 0) (hL : ∀ i, i < s.length → L i = c s ((V s sa p).getD i 0 - 1)) (hb : ∀ i, L i < 256) {j : Nat} (hj : j < s.length) : Qxb6606288a.outv L s.length p j = c s j := by
  obtain ⟨h1, h2⟩ := rr_row h hp hL hb (s.length - 1 - j) (by omega)
  rw [show s.length - (s.length - 1 - j) = j + 1 by omega] at h1
  obtain ⟨g1, g2, g3, g4⟩ := lf_row h hp hL h1 h2
  have hne : Qxb6606288a.rr L s.length p (s.length - 1 - j) ≠ p := fun e => by rw [e, hp] at h1; cases h1
  unfold Qxb6606288a.outv Qxb6606288a.rowv
  rw [if_neg hne]
  have hbb := hb (Qxb6606288a.idx p (Qxb6606288a.rr L s.length p (s.length - 1 - j)))
  rw [← g3]; omega
end Go.Proofs.Qxb6606288a.Sais
