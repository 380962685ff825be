/-
  The plain laws: the order of strings, sorted blocks, what 'add' makes of them. No program. Not trusted: the kernel checks it.
-/
import Derived.Lib.Bytealg
import Derived.Lib.Strings
namespace Go.Proofs.Qxb6606313a
set_option linter.unusedVariables false

/-- the model's order of strings -/
def lts (a b : ByteArray) : Bool := Op.bytesLess a.toList b.toList
def cmpv (a b : ByteArray) : Int := Lib.compareBytes a.data.toList b.data.toList

/-! ### the order of strings -/
theorem bl_irrefl : ∀ x : List UInt8, Op.bytesLess x x = false
  | [] => rfl
  | a :: x => by
    have := bl_irrefl x
    simp [Op.bytesLess, this]
theorem bl_total : ∀ x y : List UInt8, x ≠ y → Op.bytesLess x y = true ∨ Op.bytesLess y x = true
  | [], [], h => absurd rfl h
  | [], _ :: _, _ => .inl rfl
  | _ :: _, [], _ => .inr rfl
  | a :: x, b :: y, h => by
    by_cases e : a = b
    · subst e
      have := bl_total x y (fun e => h (by rw [e]))
      simpa [Op.bytesLess] using this
    · rcases UInt8.lt_or_lt_of_ne e with h | h
      · left; simp [Op.bytesLess, h]
      · right; simp [Op.bytesLess, h]
theorem bl_trans : ∀ x y z : List UInt8, Op.bytesLess x y = true → Op.bytesLess y z = true → Op.bytesLess x z = true
  | _, [], _, h, _ => by simp [Op.bytesLess] at h
  | _, _ :: _, [], _, h => by simp [Op.bytesLess] at h
  | [], _ :: _, _ :: _, _, _ => rfl
  | a :: x, b :: y, c :: z, h1, h2 => by
    simp only [Op.bytesLess, Bool.or_eq_true, Bool.and_eq_true, decide_eq_true_eq, beq_iff_eq] at h1 h2 ⊢
    rcases h1 with h1 | ⟨rfl, h1⟩
    · rcases h2 with h2 | ⟨rfl, h2⟩
      · exact .inl (UInt8.lt_trans h1 h2)
      · exact .inl h1
    · rcases h2 with h2 | ⟨rfl, h2⟩
      · exact .inl h2
      · exact .inr ⟨rfl, bl_trans x y z h1 h2⟩
theorem bl_cmp : ∀ x y : List UInt8, Lib.compareBytes x y < 0 ↔ Op.bytesLess x y = true
  | [], [] => by simp [Lib.compareBytes, Op.bytesLess]
  | [], _ :: _ => by simp [Lib.compareBytes, Op.bytesLess]
  | _ :: _, [] => by simp [Lib.compareBytes, Op.bytesLess]
  | a :: x, b :: y => by
    have ih := bl_cmp x y
    unfold Lib.compareBytes
    by_cases h1 : a < b
    · simp [h1, Op.bytesLess]
    · by_cases h2 : b < a
      · have hne : ¬ a = b := fun e => by subst e; exact UInt8.lt_irrefl _ h2
        simp [h1, h2, Op.bytesLess, hne]
      · have e : a = b := by
          by_cases e : a = b
          · exact e
          · rcases UInt8.lt_or_lt_of_ne e with h | h
            · exact absurd h h1
            · exact absurd h h2
        subst e
        simp [Op.bytesLess, ih]

theorem ba_ext {a b : ByteArray} (h : a.toList = b.toList) : a = b := by
  apply ByteArray.ext
  rw [← Array.toList_inj, ← Lib.toList_data, ← Lib.toList_data]; exact h
theorem lts_irrefl (a : ByteArray) : lts a a = false := bl_irrefl _
theorem lts_trans {a b c : ByteArray} (h1 : lts a b = true) (h2 : lts b c = true) : lts a c = true := bl_trans _ _ _ h1 h2
theorem lts_total {a b : ByteArray} (h : a ≠ b) : lts a b = true ∨ lts b a = true := bl_total _ _ (fun e => h (ba_ext e))
theorem lts_asymm {a b : ByteArray} (h : lts a b = true) : lts b a = false := by
  cases e : lts b a with
  | false => rfl
  | true => have := lts_trans h e; rw [lts_irrefl] at this; cases this
theorem lts_ne {a b : ByteArray} (h : lts a b = true) : a ≠ b := fun e => by subst e; rw [lts_irrefl] at h; cases h
theorem cmpv_lt (a b : ByteArray) : cmpv a b < 0 ↔ lts a b = true := by
  unfold cmpv lts; rw [Lib.toList_data, Lib.toList_data]; exact bl_cmp _ _

/-! ### sorted lists -/
def Srt (l : List ByteArray) : Prop := l.Pairwise (fun a b => lts a b = true)
/-- put x at place i -/
def ins {α : Type} (l : List α) (i : Nat) (x : α) : List α := l.take i ++ x :: l.drop i
/-- how many at the head lie below the key -/
def low (k : List ByteArray) (key : ByteArray) : Nat := (k.takeWhile (fun s => lts s key)).length
def lastOf (k : List ByteArray) : ByteArray := k.getLastD ByteArray.empty
def lowB (K : List (List ByteArray)) (key : ByteArray) : Nat := (K.takeWhile (fun k => lts (lastOf k) key)).length

theorem takeWhile_len_le {α : Type} (p : α → Bool) (l : List α) : (l.takeWhile p).length ≤ l.length := (List.takeWhile_sublist p).length_le

theorem tw_lt {α : Type} (p : α → Bool) : ∀ (l : List α) (t : Nat) (x : α), t < (l.takeWhile p).length → l[t]? = some x → p x = true
  | [], t, x, h, _ => by simp at h
  | a :: l, t, x, h, hx => by
    cases e : p a with
    | false => rw [List.takeWhile_cons_of_neg (by simp [e])] at h; simp at h
    | true =>
      rw [List.takeWhile_cons_of_pos e] at h
      cases t with
      | zero => simp at hx; subst hx; exact e
      | succ t => simp at h hx; exact tw_lt p l t x (by simpa using h) hx
theorem tw_at {α : Type} (p : α → Bool) : ∀ (l : List α) (x : α), l[(l.takeWhile p).length]? = some x → p x = false
  | [], x, h => by simp at h
  | a :: l, x, h => by
    cases e : p a with
    | false => rw [List.takeWhile_cons_of_neg (by simp [e])] at h; simp at h; subst h; exact e
    | true =>
      rw [List.takeWhile_cons_of_pos e] at h
      simp at h
      exact tw_at p l x h

theorem low_lt (k : List ByteArray) (key : ByteArray) (t : Nat) (x : ByteArray) (h : t < low k key) (hx : k[t]? = some x) : lts x key = true := tw_lt (fun s => lts s key) k t x h hx
theorem low_ge (k : List ByteArray) (key : ByteArray) (hs : Srt k) (t : Nat) (x : ByteArray) (h : low k key ≤ t) (hx : k[t]? = some x) : lts x key = false := by
  have hlt : t < k.length := (List.getElem?_eq_some_iff.1 hx).1
  have h0 : low k key < k.length := by omega
  have h1 := tw_at (fun s => lts s key) k k[low k key] (by show k[low k key]? = _; simp [h0])
  by_cases e : low k key = t
  · subst e
    have : k[low k key] = x := by have := (List.getElem?_eq_some_iff.1 hx).2; exact this
    rw [← this]; exact h1
  · have h2 : lts k[low k key] x = true := by
      have hp := List.pairwise_iff_getElem.1 hs (low k key) t h0 hlt (by omega)
      have : k[t] = x := (List.getElem?_eq_some_iff.1 hx).2
      rw [← this]; exact hp
    cases e3 : lts x key with
    | false => rfl
    | true =>
      have h1' : lts k[low k key] key = false := h1
      rw [lts_trans h2 e3] at h1'; cases h1'
theorem low_le (k : List ByteArray) (key : ByteArray) : low k key ≤ k.length := takeWhile_len_le _ _

/-! ### the blocks -/
structure Inv (K : List (List ByteArray)) : Prop where
  ne : ∀ k ∈ K, k ≠ []
  srt : Srt K.flatten
  le : ∀ k ∈ K, k.length ≤ 512

theorem lastOf_mem {k : List ByteArray} (h : k ≠ []) : lastOf k ∈ k := by
  unfold lastOf
  rw [List.getLastD_eq_getLast?, List.getLast?_eq_some_getLast h]
  exact List.getLast_mem h
theorem lastOf_get {k : List ByteArray} (h : k ≠ []) : k[k.length - 1]? = some (lastOf k) := by
  unfold lastOf
  rw [List.getLastD_eq_getLast?, ← List.getLast?_eq_getElem?, List.getLast?_eq_some_getLast h]; rfl

theorem Inv.inner {K : List (List ByteArray)} (h : Inv K) {k : List ByteArray} (hk : k ∈ K) : Srt k := (List.pairwise_flatten.1 h.srt).1 k hk
theorem Inv.cross {K : List (List ByteArray)} (h : Inv K) {t u : Nat} {k l : List ByteArray} (hk : K[t]? = some k) (hl : K[u]? = some l) (htu : t < u) {x y : ByteArray} (hx : x ∈ k) (hy : y ∈ l) : lts x y = true := by
  obtain ⟨ht, rfl⟩ := List.getElem?_eq_some_iff.1 hk
  obtain ⟨hu, rfl⟩ := List.getElem?_eq_some_iff.1 hl
  exact List.pairwise_iff_getElem.1 (List.pairwise_flatten.1 h.srt).2 t u ht hu htu x hx y hy

/-- an element of a sorted list is its last or below it -/
theorem le_last {k : List ByteArray} (hs : Srt k) {x : ByteArray} (hx : x ∈ k) : x = lastOf k ∨ lts x (lastOf k) = true := by
  obtain ⟨t, ht, rfl⟩ := List.mem_iff_getElem.1 hx
  have hne : k ≠ [] := fun e => by subst e; simp at ht
  have hl := lastOf_get hne
  obtain ⟨h1, h2⟩ := List.getElem?_eq_some_iff.1 hl
  by_cases e : t = k.length - 1
  · left; subst e; exact h2
  · right; rw [← h2]; exact List.pairwise_iff_getElem.1 hs t (k.length - 1) ht h1 (by omega)

theorem lowB_le (K : List (List ByteArray)) (key : ByteArray) : lowB K key ≤ K.length := takeWhile_len_le _ _
theorem lowB_lt (K : List (List ByteArray)) (key : ByteArray) (t : Nat) (k : List ByteArray) (h : t < lowB K key) (hk : K[t]? = some k) : lts (lastOf k) key = true := tw_lt (fun k => lts (lastOf k) key) K t k h hk
theorem lowB_ge {K : List (List ByteArray)} (hK : Inv K) (key : ByteArray) (t : Nat) (k : List ByteArray) (h : lowB K key ≤ t) (hk : K[t]? = some k) : lts (lastOf k) key = false := by
  have hlt : t < K.length := (List.getElem?_eq_some_iff.1 hk).1
  have h0 : lowB K key < K.length := by omega
  have hg : K[lowB K key]? = some K[lowB K key] := by simp [h0]
  have h1 : lts (lastOf K[lowB K key]) key = false := tw_at (fun k => lts (lastOf k) key) K K[lowB K key] (by show K[lowB K key]? = _; exact hg)
  by_cases e : lowB K key = t
  · subst e
    rw [hg] at hk; cases hk; exact h1
  · have hm1 : K[lowB K key] ∈ K := List.getElem_mem h0
    have hm2 : k ∈ K := List.mem_of_getElem? hk
    have h2 := hK.cross hg hk (by omega) (lastOf_mem (hK.ne _ hm1)) (lastOf_mem (hK.ne _ hm2))
    cases e3 : lts (lastOf k) key with
    | false => rfl
    | true => rw [lts_trans h2 e3] at h1; cases h1

/-- the block that takes the key -/
def atB (K : List (List ByteArray)) (key : ByteArray) : Nat := min (lowB K key) (K.length - 1)
def cutBlk (blk : List ByteArray) : List (List ByteArray) := if blk.length ≤ 512 then [blk] else [blk.take (blk.length / 2), blk.drop (blk.length / 2)]
def addK (K : List (List ByteArray)) (key : ByteArray) : List (List ByteArray) :=
  if K = [] then [[key]] else
  K.take (atB K key) ++ cutBlk (ins (K.getD (atB K key) []) (low (K.getD (atB K key) []) key) key) ++ K.drop (atB K key + 1)

theorem flat_cut (blk : List ByteArray) : (cutBlk blk).flatten = blk := by
  unfold cutBlk; split
  · simp
  · simp
theorem len_ins {α : Type} (l : List α) (i : Nat) (x : α) (h : i ≤ l.length) : (ins l i x).length = l.length + 1 := by
  unfold ins; rw [List.length_append, List.length_cons, List.length_take, List.length_drop]; omega

theorem split_at {α : Type} (l : List α) (b : Nat) (x : α) (h : l[b]? = some x) : l = l.take b ++ x :: l.drop (b + 1) := by
  obtain ⟨hb, rfl⟩ := List.getElem?_eq_some_iff.1 h
  rw [← List.drop_eq_getElem_cons hb, List.take_append_drop]

theorem srt_ins {k : List ByteArray} (hs : Srt k) (key : ByteArray) (hk : key ∉ k) : Srt (ins k (low k key) key) := by
  have h1 : ∀ x ∈ k.take (low k key), lts x key = true := by
    intro x hx
    obtain ⟨t, ht, rfl⟩ := List.mem_iff_getElem.1 hx
    rw [List.getElem_take]
    rw [List.length_take] at ht
    exact low_lt k key t _ (by omega) (by simp)
  have h2 : ∀ x ∈ k.drop (low k key), lts key x = true := by
    intro x hx
    obtain ⟨t, ht, rfl⟩ := List.mem_iff_getElem.1 hx
    rw [List.getElem_drop]
    rw [List.length_drop] at ht
    have hf := low_ge k key hs (low k key + t) k[low k key + t] (by omega) (by simp)
    have hne : k[low k key + t] ≠ key := fun e => hk (by rw [← e]; exact List.getElem_mem _)
    rcases lts_total hne with h | h
    · rw [h] at hf; cases hf
    · exact h
  unfold Srt ins
  have hs' : Srt (k.take (low k key) ++ k.drop (low k key)) := by rw [List.take_append_drop]; exact hs
  obtain ⟨p1, p2, p3⟩ := List.pairwise_append.1 hs'
  refine List.pairwise_append.2 ⟨p1, List.pairwise_cons.2 ⟨h2, p2⟩, ?_⟩
  intro a ha b hb
  rcases List.mem_cons.1 hb with rfl | hb
  · exact h1 a ha
  · exact p3 a ha b hb
theorem perm_ins {α : Type} (l : List α) (i : Nat) (x : α) : (ins l i x).Perm (x :: l) := by
  unfold ins
  refine (List.perm_middle).trans ?_
  rw [List.take_append_drop]

theorem atB_lt {K : List (List ByteArray)} (h : K ≠ []) (key : ByteArray) : atB K key < K.length := by
  unfold atB
  have : K.length ≠ 0 := fun e => h (List.eq_nil_of_length_eq_zero e)
  omega

theorem add_flat {K : List (List ByteArray)} (h : K ≠ []) (key : ByteArray) :
    (addK K key).flatten = (K.take (atB K key)).flatten ++ ins (K.getD (atB K key) []) (low (K.getD (atB K key) []) key) key ++ (K.drop (atB K key + 1)).flatten := by
  unfold addK
  rw [if_neg h, List.flatten_append, List.flatten_append, flat_cut]

theorem add_perm (K : List (List ByteArray)) (key : ByteArray) : (addK K key).flatten.Perm (key :: K.flatten) := by
  by_cases h : K = []
  · subst h; simp [addK]
  · rw [add_flat h]
    have hb := atB_lt h key
    have e1 : K[atB K key]? = some (K.getD (atB K key) []) := by simp [List.getD_eq_getElem?_getD, hb]
    have e2 := congrArg List.flatten (split_at K _ _ e1)
    rw [List.flatten_append, List.flatten_cons] at e2
    rw [List.append_assoc]
    refine ((((perm_ins _ _ _).append_right _).append_left _).trans ?_)
    conv => rhs; rw [e2]
    exact List.perm_middle

theorem add_srt {K : List (List ByteArray)} (hK : Inv K) (key : ByteArray) (hk : key ∉ K.flatten) : Srt (addK K key).flatten := by
  by_cases h : K = []
  · subst h; simp [addK, Srt]
  · rw [add_flat h]
    have hb := atB_lt h key
    obtain ⟨k, hkk⟩ : ∃ k, K.getD (atB K key) [] = k := ⟨_, rfl⟩
    have e1 : K[atB K key]? = some k := by rw [← hkk]; simp [List.getD_eq_getElem?_getD, hb]
    rw [hkk]
    have hkm : k ∈ K := List.mem_of_getElem? e1
    have e2 := congrArg List.flatten (split_at K _ _ e1)
    rw [List.flatten_append, List.flatten_cons] at e2
    have hs := hK.srt
    rw [e2] at hs
    obtain ⟨p1, p2, p3⟩ := List.pairwise_append.1 hs
    obtain ⟨p4, p5, p6⟩ := List.pairwise_append.1 p2
    have hnk : key ∉ k := fun e => hk (by rw [e2]; simp [e])
    -- what stands in the blocks before
    have hA : ∀ x ∈ (K.take (atB K key)).flatten, lts x key = true := by
      intro x hx
      obtain ⟨l, hl, hxl⟩ := List.mem_flatten.1 hx
      obtain ⟨t, ht, rfl⟩ := List.mem_iff_getElem.1 hl
      rw [List.length_take] at ht
      rw [List.getElem_take] at hxl
      have htK : t < K.length := by omega
      have hl1 := lowB_lt K key t K[t] (by unfold atB at ht; omega) (by simp [htK])
      rcases le_last (hK.inner (List.getElem_mem htK)) hxl with h | h
      · rw [h]; exact hl1
      · exact lts_trans h hl1
    have hC : ∀ x ∈ (K.drop (atB K key + 1)).flatten, lts key x = true := by
      intro x hx
      obtain ⟨l, hl, hxl⟩ := List.mem_flatten.1 hx
      obtain ⟨t, ht, rfl⟩ := List.mem_iff_getElem.1 hl
      rw [List.length_drop] at ht
      rw [List.getElem_drop] at hxl
      have hlow : lowB K key = atB K key := by unfold atB at ht ⊢; omega
      have hg := lowB_ge hK key (atB K key) k (by omega) e1
      have hc := hK.cross e1 (show K[atB K key + 1 + t]? = some K[atB K key + 1 + t] by simp) (by omega) (lastOf_mem (hK.ne k hkm)) hxl
      by_cases e : lastOf k = key
      · rw [← e]; exact hc
      · rcases lts_total e with h | h
        · rw [h] at hg; cases hg
        · exact lts_trans h hc
    have hI := srt_ins (hK.inner hkm) key hnk
    refine List.pairwise_append.2 ⟨List.pairwise_append.2 ⟨p1, hI, ?_⟩, p5, ?_⟩
    · intro a ha b hb
      rcases List.mem_cons.1 ((perm_ins _ _ _).mem_iff.1 hb) with rfl | hb
      · exact hA a ha
      · exact p3 a ha b (List.mem_append_left _ hb)
    · intro a ha b hb
      rcases List.mem_append.1 ha with ha | ha
      · exact p3 a ha b (List.mem_append_right _ hb)
      · rcases List.mem_cons.1 ((perm_ins _ _ _).mem_iff.1 ha) with rfl | ha
        · exact hC b hb
        · exact p6 a ha b hb

/-! ### sizes -/
def HF (K : List (List ByteArray)) : Prop := 2 ≤ K.length → ∀ k ∈ K, 256 ≤ k.length

theorem cut_sizes {blk : List ByteArray} (h1 : blk ≠ []) (h2 : blk.length ≤ 513) : ∀ k ∈ cutBlk blk, k ≠ [] ∧ k.length ≤ 512 := by
  intro k hk
  have h0 : 0 < blk.length := List.length_pos_iff.2 h1
  unfold cutBlk at hk
  split at hk
  · simp at hk; subst hk; exact ⟨h1, by assumption⟩
  · simp at hk
    rcases hk with rfl | rfl
    · refine ⟨fun e => ?_, by rw [List.length_take]; omega⟩
      have := congrArg List.length e; rw [List.length_take] at this; simp only [List.length_nil] at this; omega
    · refine ⟨fun e => ?_, by rw [List.length_drop]; omega⟩
      have := congrArg List.length e; rw [List.length_drop] at this; simp only [List.length_nil] at this; omega

theorem add_inv {K : List (List ByteArray)} (hK : Inv K) (key : ByteArray) (hk : key ∉ K.flatten) : Inv (addK K key) := by
  have key3 : ∀ k ∈ addK K key, k ≠ [] ∧ k.length ≤ 512 := by
    by_cases h : K = []
    · subst h; simp [addK]
    · intro k hk
      unfold addK at hk
      rw [if_neg h] at hk
      have hb := atB_lt h key
      have e1 : K.getD (atB K key) [] ∈ K := by simp [List.getD_eq_getElem?_getD, hb]
      have hl := hK.le _ e1
      simp only [List.mem_append] at hk
      rcases hk with (hk | hk) | hk
      · have := List.mem_of_mem_take hk; exact ⟨hK.ne k this, hK.le k this⟩
      · refine cut_sizes ?_ ?_ k hk
        · intro e; have := congrArg List.length e; rw [len_ins _ _ _ (low_le _ _)] at this; simp at this
        · rw [len_ins _ _ _ (low_le _ _)]; omega
      · have := List.mem_of_mem_drop hk; exact ⟨hK.ne k this, hK.le k this⟩
  exact ⟨fun k hk => (key3 k hk).1, add_srt hK key hk, fun k hk => (key3 k hk).2⟩

theorem add_hf {K : List (List ByteArray)} (hK : Inv K) (hf : HF K) (key : ByteArray) : HF (addK K key) := by
  by_cases h : K = []
  · subst h; intro h2; simp [addK] at h2
  · intro h2 k hk
    have hb := atB_lt h key
    have e1 : K.getD (atB K key) [] ∈ K := by simp [List.getD_eq_getElem?_getD, hb]
    have hl := hK.le _ e1
    unfold addK at hk h2
    rw [if_neg h] at hk h2
    simp only [List.mem_append] at hk
    simp only [List.length_append, List.length_take, List.length_drop] at h2
    obtain ⟨blk, hblk⟩ : ∃ blk, ins (K.getD (atB K key) []) (low (K.getD (atB K key) []) key) key = blk := ⟨_, rfl⟩
    have hbl : blk.length = (K.getD (atB K key) []).length + 1 := by rw [← hblk]; exact len_ins _ _ _ (low_le _ _)
    rw [hblk] at hk h2
    have hcl : (cutBlk blk).length = 1 ∨ ((cutBlk blk).length = 2 ∧ 512 < blk.length) := by
      unfold cutBlk; split
      · left; rfl
      · right; exact ⟨rfl, by omega⟩
    rcases hk with (hk | hk) | hk
    · have hm := List.mem_of_mem_take hk
      have : 0 < (K.take (atB K key)).length := List.length_pos_iff.2 (fun e => by rw [e] at hk; cases hk)
      rw [List.length_take] at this
      exact hf (by omega) k hm
    · unfold cutBlk at hk hcl
      split at hk
      · simp at hk; subst hk
        have hc : (cutBlk k).length = 1 := by unfold cutBlk; rw [if_pos (by assumption)]; rfl
        have := hf (by omega) _ e1
        omega
      · simp at hk
        rcases hk with rfl | rfl
        · simp; omega
        · simp; omega
    · have hm := List.mem_of_mem_drop hk
      have : 0 < (K.drop (atB K key + 1)).length := List.length_pos_iff.2 (fun e => by rw [e] at hk; cases hk)
      rw [List.length_drop] at this
      exact hf (by omega) k hm
end Go.Proofs.Qxb6606313a
