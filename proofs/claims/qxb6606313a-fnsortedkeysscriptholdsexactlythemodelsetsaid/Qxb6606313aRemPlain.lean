/-
  (*sortedKeys).remove: where it stands between its steps, and the plain laws of what it leaves. Not trusted: the kernel checks it.
-/
import Derived.Test.Qxb6606313aDelBlock
namespace Go.Proofs.Qxb6606313a
open Go.RowKit Go.Deep
set_option linter.unusedVariables false

/-- where 'remove' stands: the set as it is now, and what turned since w -/
structure RW (w : World) (F : List Nat) (bs G : Nat) (ys : List Value) (L : List Blk) (w' : World) : Prop where
  rep : Rep w' bs G ys L
  to : Touch (· ∈ F) w w'
  ft : ∀ x ∈ bs :: G :: L.map Blk.g, x ∈ F ∨ w.heap.size ≤ x

theorem RW.start {w : World} {bs G : Nat} {ys : List Value} {L : List Blk} (h : Rep w bs G ys L) : RW w (bs :: G :: L.map Blk.g) bs G ys L w := ⟨h, Touch.refl _ _, fun x hx => .inl hx⟩

theorem set_split' {α : Type} (l : List α) (b : Nat) (q : α) (h : b < l.length) : l.set b q = l.take b ++ [q] ++ l.drop (b + 1) := set_split l b q h

theorem RW.put {w : World} {F : List Nat} {bs G : Nat} {ys : List Value} {L : List Blk} {w1 w2 : World} (h : RW w F bs G ys L w1) {b : Nat} {p q : Blk} (hp : L[b]? = some p)
    (hrow : w2.heap[G]? = some (.cells (ys.set b q.val).toArray 22 (0, 0))) (hT : Touch (fun k => k = G ∨ k = p.g) w1 w2) (hq : q.ok w2) (hg : q.g = p.g ∨ w1.heap.size ≤ q.g) :
    RW w F bs G (ys.set b q.val) (L.set b q) w2 := by
  have hb : b < L.length := (List.getElem?_eq_some_iff.1 hp).1
  have hpm : p ∈ L := List.mem_of_getElem? hp
  have hl : (L.set b q).length = L.length := List.length_set
  have hGq : G ≠ q.g := by
    intro e
    rcases hg with h1 | h1
    · exact h.rep.Gp hpm (e.trans h1)
    · have := h.rep.Glt; omega
  refine ⟨?_, h.to.trans' hT (fun x hx e => ?_), ?_⟩
  · have e := set_split L b q hb
    rw [e]
    refine h.rep.rebuild hp [q] ?_ hrow ?_ ?_ (by simpa using h.rep.ym) (fun x hx => by simp at hx; subst hx; exact hq) (hT.mono (fun k _ e => .inr e)) ?_ ?_
    · rw [← e, hl, List.length_set]
      exact (hT.block bs h.rep.bslt (fun e => by rcases e with e | e; exact h.rep.bsG e; exact h.rep.bsp hpm e)).trans h.rep.ptr
    · rw [← e, hl, List.take_set, h.rep.ytake, List.map_set]
    · rw [← e, hl, List.length_set]; exact h.rep.yl
    · simpa using hGq
    · intro x hx
      simp at hx
      rcases hx with rfl | rfl
      · exact .inl rfl
      · rcases hg with h1 | h1
        · exact .inr (.inl h1)
        · exact .inr (.inr h1)
  · have : x ∈ bs :: G :: L.map Blk.g := by
      rcases e with rfl | rfl
      · simp
      · exact List.mem_cons_of_mem _ (List.mem_cons_of_mem _ (List.mem_map_of_mem hpm))
    rcases h.ft x this with h1 | h1
    · exact h1
    · omega
  · intro x hx
    rcases List.mem_cons.1 hx with rfl | hx
    · exact h.ft x (by simp)
    · rcases List.mem_cons.1 hx with rfl | hx
      · exact h.ft x (by simp)
      · rw [List.map_set] at hx
        rcases List.mem_or_eq_of_mem_set hx with hx | rfl
        · exact h.ft x (List.mem_cons_of_mem _ (List.mem_cons_of_mem _ hx))
        · rcases hg with h1 | h1
          · rw [h1]; exact h.ft _ (List.mem_cons_of_mem _ (List.mem_cons_of_mem _ (List.mem_map_of_mem hpm)))
          · have := h.to.size; right; omega

theorem RW.del {w : World} {F : List Nat} {bs G : Nat} {ys : List Value} {L : List Blk} {w1 w2 : World} (h : RW w F bs G ys L w1) {L' : List Blk} (hs : L'.Sublist L) {G' : Nat} {ys' : List Value}
    (hT : Touch (fun k => k = bs ∨ k = G) w1 w2) (hR : Rep w2 bs G' ys' L') (hG : G' = G ∨ w1.heap.size ≤ G') : RW w F bs G' ys' L' w2 := by
  refine ⟨hR, h.to.trans' hT (fun x hx e => ?_), ?_⟩
  · have : x ∈ bs :: G :: L.map Blk.g := by rcases e with rfl | rfl <;> simp
    rcases h.ft x this with h1 | h1
    · exact h1
    · omega
  · intro x hx
    rcases List.mem_cons.1 hx with rfl | hx
    · exact h.ft x (by simp)
    · rcases List.mem_cons.1 hx with rfl | hx
      · rcases hG with rfl | h1
        · exact h.ft _ (by simp)
        · have := h.to.size; right; omega
      · exact h.ft x (List.mem_cons_of_mem _ (List.mem_cons_of_mem _ ((hs.map Blk.g).subset hx)))

theorem RW.st {w : World} {F : List Nat} {bs G : Nat} {ys : List Value} {L : List Blk} {w1 : World} (h : RW w F bs G ys L w1) : ∃ F', St w1 bs F' (keysOf L) ∧ ∀ x ∈ F', x ∈ F ∨ w.heap.size ≤ x := by
  by_cases e : L = []
  · subst e
    exact ⟨[bs], .inl ⟨rfl, rfl, _, _, h.rep.ptr, h.rep.ym⟩, fun x hx => h.ft x (by simp at hx; subst hx; simp)⟩
  · exact ⟨_, .inr ⟨by simpa [keysOf] using e, G, ys, L, rfl, h.rep, rfl⟩, h.ft⟩

/-! ### plain -/
theorem not_in_out {K : List (List ByteArray)} (hK : Inv K) (key : ByteArray) (h : lowB K key = K.length) : key ∉ K.flatten := by
  intro hm
  obtain ⟨k, hk, hx⟩ := List.mem_flatten.1 hm
  obtain ⟨t, ht, rfl⟩ := List.mem_iff_getElem.1 hk
  have hl := lowB_lt K key t K[t] (by omega) (by simp)
  rcases le_last (hK.inner (List.getElem_mem ht)) hx with e | e
  · rw [← e] at hl; exact lts_ne hl rfl
  · exact lts_ne (lts_trans e hl) rfl
theorem not_in_at {K : List (List ByteArray)} (hK : Inv K) (key : ByteArray) {k : List ByteArray} (hk : K[lowB K key]? = some k) (h : ¬ (low k key < k.length ∧ k.getD (low k key) ByteArray.empty = key)) : key ∉ K.flatten := by
  intro hm
  obtain ⟨l, hl, hx⟩ := List.mem_flatten.1 hm
  obtain ⟨t, ht, rfl⟩ := List.mem_iff_getElem.1 hl
  have hkm := List.mem_of_getElem? hk
  rcases Nat.lt_trichotomy t (lowB K key) with c | c | c
  · have hl := lowB_lt K key t K[t] c (by simp)
    rcases le_last (hK.inner (List.getElem_mem ht)) hx with e | e
    · rw [← e] at hl; exact lts_ne hl rfl
    · exact lts_ne (lts_trans e hl) rfl
  · subst c
    have e : K[lowB K key] = k := (List.getElem?_eq_some_iff.1 hk).2
    rw [e] at hx
    obtain ⟨u, hu, hue⟩ := List.mem_iff_getElem.1 hx
    have hs := hK.inner hkm
    by_cases c2 : u < low k key
    · have := low_lt k key u k[u] c2 (by simp)
      rw [hue] at this; exact lts_ne this rfl
    · have h0 : low k key < k.length := by omega
      have h1 := low_ge k key hs (low k key) k[low k key] (Nat.le_refl _) (by simp)
      by_cases c3 : u = low k key
      · subst c3
        exact h ⟨h0, by simp [List.getD_eq_getElem?_getD, h0]; exact hue⟩
      · have h2 := List.pairwise_iff_getElem.1 hs (low k key) u h0 hu (by omega)
        rw [hue] at h2; rw [h2] at h1; cases h1
  · have hg := lowB_ge hK key (lowB K key) k (Nat.le_refl _) hk
    have hc := hK.cross hk (show K[t]? = some K[t] by simp) c (lastOf_mem (hK.ne k hkm)) hx
    rw [hc] at hg; cases hg

/-- what the set becomes, in one law: the keys stand as before, but for one -/
def RPl (K K' : List (List ByteArray)) (key : ByteArray) : Prop := Inv K' ∧ (key ∈ K.flatten → K.flatten.Perm (key :: K'.flatten)) ∧ (key ∉ K.flatten → K' = K)

theorem rpl_same {K : List (List ByteArray)} (hK : Inv K) {key : ByteArray} (h : key ∉ K.flatten) : RPl K K key := ⟨hK, fun e => absurd e h, fun _ => rfl⟩
theorem rpl_of {A C : List (List ByteArray)} {k0 : List ByteArray} (hK : Inv (A ++ k0 :: C)) {i : Nat} {key : ByteArray} (hi : k0[i]? = some key) {K' : List (List ByteArray)} (hf : K'.flatten = A.flatten ++ k0.eraseIdx i ++ C.flatten)
    (hb : ∀ k ∈ K', k ≠ [] ∧ k.length ≤ 512) : RPl (A ++ k0 :: C) K' key := by
  have hil : i < k0.length := (List.getElem?_eq_some_iff.1 hi).1
  have e0 : (A ++ k0 :: C).flatten = A.flatten ++ k0 ++ C.flatten := by simp
  have e1 : k0 = k0.take i ++ key :: k0.drop (i + 1) := split_at k0 i key hi
  have e2 : k0.eraseIdx i = k0.take i ++ k0.drop (i + 1) := List.eraseIdx_eq_take_drop_succ ..
  refine ⟨⟨fun k hk => (hb k hk).1, ?_, fun k hk => (hb k hk).2⟩, fun _ => ?_, fun h => absurd ?_ h⟩
  · rw [hf]
    have hs := hK.srt
    rw [e0] at hs
    exact List.Pairwise.sublist (((List.Sublist.refl _).append (List.eraseIdx_sublist ..)).append (List.Sublist.refl _)) hs
  · rw [e0, hf, e2]
    conv => lhs; rw [e1]
    have e3 : A.flatten ++ (k0.take i ++ key :: k0.drop (i + 1)) ++ C.flatten = (A.flatten ++ k0.take i) ++ key :: (k0.drop (i + 1) ++ C.flatten) := by simp
    rw [e3]
    refine List.perm_middle.trans ?_
    simp
  · rw [e0]
    have := List.mem_of_getElem? hi
    simp [this]

theorem set_mid {α : Type} (A C : List α) (x y : α) (b : Nat) (h : A.length = b) : (A ++ x :: C).set b y = A ++ y :: C := by
  subst h; simp
theorem erase_mid {α : Type} (A C : List α) (x : α) (b : Nat) (h : A.length = b) : (A ++ x :: C).eraseIdx b = A ++ C := by
  subst h; rw [List.eraseIdx_append_of_length_le (Nat.le_refl _)]; simp
theorem keys_set (L : List Blk) (b : Nat) (q : Blk) : keysOf (L.set b q) = (keysOf L).set b q.k := by unfold keysOf; rw [List.map_set]
theorem keys_erase (L : List Blk) (b : Nat) : keysOf (L.eraseIdx b) = (keysOf L).eraseIdx b := by unfold keysOf; rw [map_erase]

/-- the block is left empty: it goes -/
theorem rpl_gone {K : List (List ByteArray)} (hK : Inv K) {b i : Nat} {k0 : List ByteArray} {key : ByteArray} (hb : K[b]? = some k0) (hi : k0[i]? = some key) (h0 : (k0.eraseIdx i).length = 0) : RPl K ((K.set b (k0.eraseIdx i)).eraseIdx b) key := by
  have e := split_at K b k0 hb
  have hbl : b < K.length := (List.getElem?_eq_some_iff.1 hb).1
  have hl : (K.take b).length = b := by simp; omega
  obtain ⟨A, hA⟩ : ∃ A, K.take b = A := ⟨_, rfl⟩
  obtain ⟨C, hC⟩ : ∃ C, K.drop (b + 1) = C := ⟨_, rfl⟩
  rw [hA, hC] at e
  rw [hA] at hl
  clear hA hC
  subst e
  rw [set_mid _ _ _ _ _ hl, erase_mid _ _ _ _ hl]
  refine rpl_of hK hi ?_ (fun k hk => ?_)
  · rw [List.eq_nil_of_length_eq_zero h0]; simp
  · have hm : k ∈ A ++ k0 :: C := by
      rcases List.mem_append.1 hk with h | h
      · exact List.mem_append_left _ h
      · exact List.mem_append_right _ (List.mem_cons_of_mem _ h)
    exact ⟨hK.ne k hm, hK.le k hm⟩
/-- the block stays -/
theorem rpl_stay {K : List (List ByteArray)} (hK : Inv K) {b i : Nat} {k0 : List ByteArray} {key : ByteArray} (hb : K[b]? = some k0) (hi : k0[i]? = some key) (h0 : (k0.eraseIdx i).length ≠ 0) : RPl K (K.set b (k0.eraseIdx i)) key := by
  have e := split_at K b k0 hb
  have hbl : b < K.length := (List.getElem?_eq_some_iff.1 hb).1
  have hl : (K.take b).length = b := by simp; omega
  obtain ⟨A, hA⟩ : ∃ A, K.take b = A := ⟨_, rfl⟩
  obtain ⟨C, hC⟩ : ∃ C, K.drop (b + 1) = C := ⟨_, rfl⟩
  rw [hA, hC] at e
  rw [hA] at hl
  clear hA hC
  subst e
  rw [set_mid _ _ _ _ _ hl]
  refine rpl_of hK hi (by simp) (fun k hk => ?_)
  have hle := hK.le k0 (by simp)
  rcases List.mem_append.1 hk with h | h
  · exact ⟨hK.ne k (by simp [h]), hK.le k (by simp [h])⟩
  · rcases List.mem_cons.1 h with rfl | h
    · exact ⟨fun e => h0 (by rw [e]; rfl), Nat.le_trans (List.Sublist.length_le (List.eraseIdx_sublist ..)) hle⟩
    · exact ⟨hK.ne k (by simp [h]), hK.le k (by simp [h])⟩
/-- the block takes the next one in -/
theorem rpl_next {K : List (List ByteArray)} (hK : Inv K) {b i : Nat} {k0 r : List ByteArray} {key : ByteArray} (hb : K[b]? = some k0) (hr : K[b + 1]? = some r) (hi : k0[i]? = some key) (hs : (k0.eraseIdx i).length + r.length ≤ 512) :
    RPl K (((K.set b (k0.eraseIdx i)).set b (k0.eraseIdx i ++ r)).eraseIdx (b + 1)) key := by
  have e := split_at K b k0 hb
  have hbl : b < K.length := (List.getElem?_eq_some_iff.1 hb).1
  have hl : (K.take b).length = b := by simp; omega
  have hd : K.drop (b + 1) = r :: K.drop (b + 2) := by
    obtain ⟨h1, h2⟩ := List.getElem?_eq_some_iff.1 hr
    rw [List.drop_eq_getElem_cons h1, h2]
  rw [hd] at e
  obtain ⟨A, hA⟩ : ∃ A, K.take b = A := ⟨_, rfl⟩
  obtain ⟨C, hC⟩ : ∃ C, K.drop (b + 2) = C := ⟨_, rfl⟩
  rw [hA, hC] at e
  rw [hA] at hl
  clear hA hC hd
  subst e
  rw [List.set_set, set_mid _ _ _ _ _ hl]
  have e2 : A ++ (k0.eraseIdx i ++ r) :: r :: C = (A ++ [k0.eraseIdx i ++ r]) ++ r :: C := by simp
  rw [e2, erase_mid _ _ _ (b + 1) (by simp [hl])]
  refine rpl_of hK hi (by simp) (fun k hk => ?_)
  have hrne := hK.ne r (by simp)
  simp only [List.mem_append, List.mem_singleton] at hk
  rcases hk with (h | h) | h
  · exact ⟨hK.ne k (by simp [h]), hK.le k (by simp [h])⟩
  · subst h; exact ⟨fun e => hrne (List.append_eq_nil_iff.1 e).2, by rw [List.length_append]; exact hs⟩
  · exact ⟨hK.ne k (by simp [h]), hK.le k (by simp [h])⟩
/-- the block goes into the one before -/
theorem rpl_prev {K : List (List ByteArray)} (hK : Inv K) {b i : Nat} {k0 r : List ByteArray} {key : ByteArray} (hb : K[b + 1]? = some k0) (hr : K[b]? = some r) (hi : k0[i]? = some key) (hs : r.length + (k0.eraseIdx i).length ≤ 512) :
    RPl K (((K.set (b + 1) (k0.eraseIdx i)).set b (r ++ k0.eraseIdx i)).eraseIdx (b + 1)) key := by
  have e := split_at K b r hr
  have hbl : b < K.length := (List.getElem?_eq_some_iff.1 hr).1
  have hl : (K.take b).length = b := by simp; omega
  have hd : K.drop (b + 1) = k0 :: K.drop (b + 2) := by
    obtain ⟨h1, h2⟩ := List.getElem?_eq_some_iff.1 hb
    rw [List.drop_eq_getElem_cons h1, h2]
  rw [hd] at e
  obtain ⟨A, hA⟩ : ∃ A, K.take b = A := ⟨_, rfl⟩
  obtain ⟨C, hC⟩ : ∃ C, K.drop (b + 2) = C := ⟨_, rfl⟩
  rw [hA, hC] at e
  rw [hA] at hl
  clear hA hC hd
  subst e
  have e1 : A ++ r :: k0 :: C = (A ++ [r]) ++ k0 :: C := by simp
  have e3 : (A ++ r :: k0 :: C).set (b + 1) (k0.eraseIdx i) = A ++ r :: k0.eraseIdx i :: C := by
    rw [e1, set_mid _ _ _ _ (b + 1) (by simp [hl])]; simp
  rw [e3, set_mid _ _ _ _ _ hl]
  have e2 : A ++ (r ++ k0.eraseIdx i) :: k0.eraseIdx i :: C = (A ++ [r ++ k0.eraseIdx i]) ++ k0.eraseIdx i :: C := by simp
  rw [e2, erase_mid _ _ _ (b + 1) (by simp [hl])]
  rw [e1] at hK ⊢
  refine rpl_of hK hi (by simp) (fun k hk => ?_)
  have hrne := hK.ne r (by simp)
  simp only [List.mem_append, List.mem_singleton] at hk
  rcases hk with (h | h) | h
  · exact ⟨hK.ne k (by simp [h]), hK.le k (by simp [h])⟩
  · subst h; exact ⟨fun e => hrne (List.append_eq_nil_iff.1 e).1, by rw [List.length_append]; exact hs⟩
  · exact ⟨hK.ne k (by simp [h]), hK.le k (by simp [h])⟩
end Go.Proofs.Qxb6606313a
