/-
  '(*sortedKeys).add', walked: every road. Not trusted: the kernel checks it.
-/
import Derived.Test.Qxb6606313aRep
namespace Go.Proofs.Qxb6606313a
open Go.RowKit Go.Deep
set_option linter.unusedVariables false

theorem nodup_split {α : Type} {A B C : List α} (h : (A ++ B ++ C).Nodup) (N : List α) (hN : N.Nodup) (h1 : ∀ x ∈ N, x ∉ A) (h2 : ∀ x ∈ N, x ∉ C) : (A ++ N ++ C).Nodup := by
  obtain ⟨p1, p2, p3⟩ := List.nodup_append.1 h
  obtain ⟨q1, q2, q3⟩ := List.nodup_append.1 p1
  refine List.nodup_append.2 ⟨List.nodup_append.2 ⟨q1, hN, ?_⟩, p2, ?_⟩
  · intro a ha b hb e
    subst e
    exact h1 a hb ha
  · intro a ha b hb e
    subst e
    rcases List.mem_append.1 ha with ha | ha
    · exact p3 a (List.mem_append_left _ ha) a hb rfl
    · exact h2 a ha hb

/-- two steps: what the second touches counts only where it is old -/
theorem Touch.trans' {S T : Nat → Prop} {a b c : World} (h : Touch S a b) (k : Touch T b c) (hS : ∀ x, x < a.heap.size → T x → S x) : Touch S a c :=
  ⟨k.os.trans h.os, k.tape.trans h.tape, k.output.trans h.output, Nat.le_trans h.size k.size, fun i hi hn => (k.block i (Nat.lt_of_lt_of_le hi h.size) (fun e => hn (hS i hi e))).trans (h.block i hi hn)⟩

theorem Blk.ok_of {w w' : World} {p : Blk} (h : p.ok w) (hb : w'.heap[p.g]? = w.heap[p.g]?) : p.ok w' := by
  obtain ⟨h1, h2⟩ := h
  exact ⟨hb.trans h1, h2⟩
theorem Blk.lt {w : World} {p : Blk} (h : p.ok w) : p.g < w.heap.size := (Array.getElem?_eq_some_iff.1 h.1).1

theorem Rep.rebuild {w w' : World} {bs G : Nat} {ys : List Value} {L : List Blk} (hR : Rep w bs G ys L) {b : Nat} {p : Blk} (hp : L[b]? = some p) {G2 : Nat} {ys2 : List Value} (N : List Blk)
    (hptr : w'.heap[bs]? = some (.cells #[.slice (some ⟨G2, 0, none⟩) (L.take b ++ N ++ L.drop (b + 1)).length ys2.length] 41 (0, 0)))
    (hrow : w'.heap[G2]? = some (.cells ys2.toArray 22 (0, 0))) (hyt : ys2.take (L.take b ++ N ++ L.drop (b + 1)).length = (L.take b ++ N ++ L.drop (b + 1)).map Blk.val)
    (hyl : (L.take b ++ N ++ L.drop (b + 1)).length ≤ ys2.length) (hym : ys2.length ≤ maxLen) (hok : ∀ q ∈ N, q.ok w') (hT : Touch (fun k => k = bs ∨ k = G ∨ k = p.g) w w')
    (hN : (G2 :: N.map Blk.g).Nodup) (hfr : ∀ x ∈ G2 :: N.map Blk.g, x = G ∨ x = p.g ∨ w.heap.size ≤ x) : Rep w' bs G2 ys2 (L.take b ++ N ++ L.drop (b + 1)) := by
  have hL := split_at L b p hp
  have hnd := hR.nd
  rw [hL, List.map_append, List.map_cons] at hnd
  have hnd2 : (((bs :: G :: []) ++ (L.take b).map Blk.g) ++ [p.g] ++ (L.drop (b + 1)).map Blk.g).Nodup := by simpa using hnd
  have hbsG : bs ≠ G := by
    have := (List.nodup_cons.1 hnd).1
    intro e; exact this (by rw [e]; exact List.mem_cons_self ..)
  have hbsp : bs ≠ p.g := by
    have := (List.nodup_cons.1 hnd).1
    intro e; exact this (by rw [e]; simp)
  have hold : ∀ q, q ∈ L.take b ∨ q ∈ L.drop (b + 1) → q.g ≠ bs ∧ q.g ≠ G ∧ q.g ≠ p.g ∧ q ∈ L := by
    intro q hq
    have hmem : q ∈ L := by rcases hq with h | h; exact List.mem_of_mem_take h; exact List.mem_of_mem_drop h
    obtain ⟨n1, n2⟩ := List.nodup_cons.1 hnd
    obtain ⟨n3, n4⟩ := List.nodup_cons.1 n2
    refine ⟨fun e => n1 ?_, fun e => n3 ?_, ?_, hmem⟩
    · rw [← e]; rcases hq with h | h
      · exact List.mem_cons_of_mem _ (List.mem_append_left _ (List.mem_map_of_mem h))
      · exact List.mem_cons_of_mem _ (List.mem_append_right _ (List.mem_cons_of_mem _ (List.mem_map_of_mem h)))
    · rw [← e]; rcases hq with h | h
      · exact List.mem_append_left _ (List.mem_map_of_mem h)
      · exact List.mem_append_right _ (List.mem_cons_of_mem _ (List.mem_map_of_mem h))
    · obtain ⟨m1, m2, m3⟩ := List.nodup_append.1 n4
      rcases hq with h | h
      · exact m3 _ (List.mem_map_of_mem h) _ (List.mem_cons_self ..)
      · intro e
        exact (List.nodup_cons.1 m2).1 (by rw [← e]; exact List.mem_map_of_mem h)
  have hbs : bs < w.heap.size := (Array.getElem?_eq_some_iff.1 hR.ptr).1
  refine ⟨hptr, hrow, hyt, hyl, hym, ?_, ?_⟩
  · intro q hq
    simp only [List.mem_append] at hq
    have hcase : q ∈ N ∨ (q ∈ L.take b ∨ q ∈ L.drop (b + 1)) := by
      rcases hq with (h | h) | h
      · exact .inr (.inl h)
      · exact .inl h
      · exact .inr (.inr h)
    rcases hcase with h | h
    · exact hok q h
    · obtain ⟨o1, o2, o3, o4⟩ := hold q h
      have hqo := hR.ok q o4
      exact Blk.ok_of hqo (hT.block q.g (Blk.lt hqo) (fun e => by rcases e with e | e | e; exact o1 e; exact o2 e; exact o3 e))
  · -- no two alike
    have hA : (L.take b).map Blk.g ++ (L.drop (b + 1)).map Blk.g = ((L.take b).map Blk.g ++ [] ++ (L.drop (b + 1)).map Blk.g) := by simp
    have n0 : ((L.take b).map Blk.g ++ [p.g] ++ (L.drop (b + 1)).map Blk.g).Nodup := by
      have := (List.nodup_cons.1 (List.nodup_cons.1 hnd).2).2
      simpa using this
    have hx : ∀ x ∈ G2 :: N.map Blk.g, x ∉ (L.take b).map Blk.g ∧ x ∉ (L.drop (b + 1)).map Blk.g ∧ x ≠ bs := by
      intro x hx
      have hne : ∀ q, q ∈ L.take b ∨ q ∈ L.drop (b + 1) → x ≠ q.g := by
        intro q hq e
        obtain ⟨o1, o2, o3, o4⟩ := hold q hq
        have := Blk.lt (hR.ok q o4)
        rcases hfr x hx with h | h | h
        · exact o2 (e ▸ h)
        · exact o3 (e ▸ h)
        · omega
      refine ⟨fun h => ?_, fun h => ?_, fun h => ?_⟩
      · obtain ⟨q, hq, e⟩ := List.mem_map.1 h; exact hne q (.inl hq) e.symm
      · obtain ⟨q, hq, e⟩ := List.mem_map.1 h; exact hne q (.inr hq) e.symm
      · rcases hfr x hx with e | e | e
        · exact hbsG (h ▸ e)
        · exact hbsp (h ▸ e)
        · omega
    have n1 := nodup_split n0 (N.map Blk.g) (List.nodup_cons.1 hN).2 (fun x h => (hx x (List.mem_cons_of_mem _ h)).1) (fun x h => (hx x (List.mem_cons_of_mem _ h)).2.1)
    rw [List.map_append, List.map_append]
    have hG2 : G2 ∉ (L.take b).map Blk.g ++ N.map Blk.g ++ (L.drop (b + 1)).map Blk.g := by
      intro h
      simp only [List.mem_append] at h
      rcases h with (h | h) | h
      · exact (hx G2 (List.mem_cons_self ..)).1 h
      · exact (List.nodup_cons.1 hN).1 h
      · exact (hx G2 (List.mem_cons_self ..)).2.1 h
    have hbs2 : bs ∉ G2 :: ((L.take b).map Blk.g ++ N.map Blk.g ++ (L.drop (b + 1)).map Blk.g) := by
      intro h
      rcases List.mem_cons.1 h with h | h
      · exact (hx G2 (List.mem_cons_self ..)).2.2 h.symm
      · simp only [List.mem_append] at h
        rcases h with (h | h) | h
        · obtain ⟨q, hq, e⟩ := List.mem_map.1 h; exact (hold q (.inl hq)).1 e
        · exact (hx bs (List.mem_cons_of_mem _ h)).2.2 rfl
        · obtain ⟨q, hq, e⟩ := List.mem_map.1 h; exact (hold q (.inr hq)).1 e
    exact List.nodup_cons.2 ⟨hbs2, List.nodup_cons.2 ⟨hG2, n1⟩⟩

/-! ### clear -/
def clrW (w : World) (g : Nat) (xs : List Value) (o n : Nat) (z : Value) : World := w.setRow g (splice xs o (List.replicate n z)).toArray
theorem run_clr {P : Program} (w : World) (t e : TypeId) (z : Value) (ht : P.underlying t = some (.slice e)) (hv : ∀ w, (zeroValue e).run P w = .ok z w) (hz : z.cells = #[z]) (h1 : z.oneCell' = true) (g o n c : Nat) (hn : 0 < n) (xs : List Value)
    (hg : w.heap[g]? = some (.cells xs.toArray e (0, 0))) (hfit : o + n ≤ xs.length) :
    (∀ ty, (Builtin.clear_ #[t] ty #[.slice (some ⟨g, o, none⟩) n c]).run P w = .ok (.tuple #[]) (clrW w g xs o n z)) ∧ (clrW w g xs o n z).heap[g]? = some (.cells (splice xs o (List.replicate n z)).toArray e (0, 0)) ∧ Same g w (clrW w g xs o n z) := by
  have hzc : (Builtin.zeroCells z.cells n).toList = List.replicate n z := by
    rw [hz]
    simp [Builtin.zeroCells]
    apply List.ext_getElem
    · simp
    · intro i h1 h2
      simp [Nat.mod_one]
  have hst := run_storeCells_at P g o e (List.replicate n z) 0 xs.toArray w hg (by simpa using hfit) (by intro v hv'; rw [List.eq_of_mem_replicate hv']; exact h1)
  simp only [Nat.add_zero] at hst
  have e0 : (xs.toArray.toList.take o ++ List.replicate n z ++ xs.toArray.toList.drop (o + (List.replicate n z).length)).toArray = (splice xs o (List.replicate n z)).toArray := by simp [splice]
  rw [e0] at hst
  refine ⟨fun ty => ?_, setRow_heap w g xs.toArray _ e (0, 0) hg, ⟨rfl, rfl, rfl, by simp [clrW, World.setRow], fun k hk => setRow_other w g k _ (by omega)⟩⟩
  obtain ⟨m, rfl⟩ : ∃ m, n = m + 1 := ⟨n - 1, by omega⟩
  simp [Builtin.clear_, run_underlying ht, hv, hzc, hst, clrW]

/-- the set in memory, empty or not; F: the blocks that are its own -/
def St (w : World) (bs : Nat) (F : List Nat) (K : List (List ByteArray)) : Prop :=
  (K = [] ∧ F = [bs] ∧ ∃ a c, w.heap[bs]? = some (.cells #[.slice a 0 c] 41 (0, 0)) ∧ c ≤ maxLen) ∨
  (K ≠ [] ∧ ∃ G ys L, F = bs :: G :: L.map Blk.g ∧ Rep w bs G ys L ∧ keysOf L = K)

def APost (w : World) (bs : Nat) (F : List Nat) (K' : List (List ByteArray)) (e : Ending) (w' : World) : Prop :=
  e = .returned (.tuple #[]) ∧ ∃ F', St w' bs F' K' ∧ Touch (· ∈ F) w w' ∧ ∀ x ∈ F', x ∈ F ∨ w.heap.size ≤ x

theorem set_one {w : World} {b : Nat} {u : Value} {t : TypeId} (v : Value) (h : w.heap[b]? = some (.cells #[u] t (0, 0))) : (w.setCell ⟨b, 0, none⟩ v).heap[b]? = some (.cells #[v] t (0, 0)) := by
  simp [World.setCell, Array.getElem?_modify, h]
theorem set_row {w : World} {b : Nat} {xs : List Value} {t : TypeId} (i : Nat) (v : Value) (h : w.heap[b]? = some (.cells xs.toArray t (0, 0))) : (w.setCell ⟨b, i, none⟩ v).heap[b]? = some (.cells (xs.set i v).toArray t (0, 0)) := by
  simp [World.setCell, Array.getElem?_modify, h]
theorem size_set (w : World) (a : Addr) (v : Value) : (w.setCell a v).heap.size = w.heap.size := by simp [World.setCell]

set_option maxHeartbeats 1000000 in
theorem add_empty (bs : Nat) (a : Option Addr) (c : Nat) (key : ByteArray) (w : World) (hR : w.heap[bs]? = some (.cells #[.slice a 0 c] 41 (0, 0))) :
    Calls Try.prog 21 #[.pointer (some ⟨bs, 0, none⟩), .string key] w (APost w bs [bs] (addK [] key)) := by
  have hc : w.cell? ⟨bs, 0, none⟩ = some (.slice a 0 c) := by rw [cell_of_row w bs 0 _ _ _ hR]; rfl
  have hf : w.frozen? ⟨bs, 0, none⟩ = false := by simp [World.frozen?, hR]
  have hlt : bs < w.heap.size := (Array.getElem?_eq_some_iff.1 hR).1
  have Fi := hide (find_none bs a c key w hR)
  have HR := hide hR
  clear hR
  go_enter Try.func21, Try.ntmps21
  go_wp2_with (go_at_call 24; refine (Fi.out).mono ?_; rintro e w ⟨rfl, rfl⟩)
  go_end0
  obtain ⟨v, hv⟩ : ∃ v, Value.slice (some ⟨w.heap.size + 1, 0, none⟩) 1 1 = v := ⟨_, rfl⟩
  obtain ⟨u, hu⟩ : ∃ u, Value.slice (some ⟨w.heap.size, 0, none⟩) 1 1 = u := ⟨_, rfl⟩
  rw [hv, hu]
  have z1 : (w.setCell ⟨bs, 0, none⟩ v).heap.size = w.heap.size := size_set _ _ _
  have z2 : ((w.setCell ⟨bs, 0, none⟩ v).alloc (.cells #[.string key] 9)).heap.size = w.heap.size + 1 := by rw [World.size_alloc, z1]
  have p1 := set_one v HR.out
  have n1 := Go.heap_alloc_new (w.setCell ⟨bs, 0, none⟩ v) (.cells #[.string key] 9)
  have n2 := Go.heap_alloc_new ((w.setCell ⟨bs, 0, none⟩ v).alloc (.cells #[.string key] 9)) (.cells #[u] 22)
  rw [z1] at n1
  rw [z2] at n2
  refine ⟨rfl, [bs, w.heap.size + 1, w.heap.size], .inr ⟨by simp [addK], w.heap.size + 1, [u], [⟨w.heap.size, [.string key], [key]⟩], rfl, ⟨?_, n2, by rw [← hu]; rfl, by simp, by simp [maxLen], ?_, ?_⟩, by simp [addK, keysOf]⟩, ?_, ?_⟩
  · rw [Below.heap_alloc _ _ bs (by omega), Below.heap_alloc _ _ bs (by omega), p1, ← hv]; rfl
  · intro p hp
    simp at hp; subst hp
    refine ⟨?_, rfl, by simp, by simp [maxLen]⟩
    show (((w.setCell ⟨bs, 0, none⟩ v).alloc (.cells #[.string key] 9)).alloc (.cells #[u] 22)).heap[w.heap.size]? = _
    rw [Below.heap_alloc _ _ w.heap.size (by omega)]; exact n1
  · simp; omega
  · exact (((Touch.refl _ w).setCell (by simp) v).alloc _).alloc _
  · intro x hx
    simp at hx ⊢; omega

theorem low_full (k : List ByteArray) (key : ByteArray) (h : ∀ x ∈ k, lts x key = true) : low k key = k.length := by
  have h1 := low_le k key
  by_cases e : low k key = k.length
  · exact e
  · have hlt : low k key < k.length := by omega
    have h2 : lts k[low k key] key = false := tw_at (fun s => lts s key) k k[low k key] (by show k[low k key]? = _; simp [hlt])
    rw [h _ (List.getElem_mem hlt)] at h2; cases h2

theorem low_out {L : List Blk} (hK : Inv (keysOf L)) (key : ByteArray) (hb : lowB (keysOf L) key = L.length) {t : Nat} {p : Blk} (hp : L[t]? = some p) : low p.k key = p.k.length := by
  have ht : t < L.length := (List.getElem?_eq_some_iff.1 hp).1
  have h1 := lowB_lt _ key t p.k (by omega) (keys_get hp)
  refine low_full _ _ (fun x hx => ?_)
  rcases le_last (hK.inner (List.mem_of_getElem? (keys_get hp))) hx with h | h
  · rw [h]; exact h1
  · exact lts_trans h h1

theorem strs_one (l : List ByteArray) : ∀ u ∈ l.map Value.string, u.oneCell' = true := by
  intro u hu; simp at hu; obtain ⟨a, _, rfl⟩ := hu; rfl

/-- the world behind the Insert: the new block -/
theorem ins_blk {w w1 : World} {p : Blk} (hp : p.ok w) {i g' : Nat} {xs' : List Value} (key : ByteArray) (hi : i ≤ p.k.length) (h : InsAfter 9 (w.alloc (.cells #[.string key] 9)) p.g p.k.length p.xs i (.string key) g' xs' w1) :
    (Blk.mk g' xs' (ins p.k i key)).ok w1 ∧ Touch (· = p.g) w w1 ∧ (g' = p.g ∨ w.heap.size ≤ g') ∧ (ins p.k i key).length = p.k.length + 1 := by
  obtain ⟨h1, h2, h3, h4, h5, h6⟩ := h
  have hl := len_ins p.k i key hi
  refine ⟨⟨h1, ?_, by rw [hl]; exact h3, h4⟩, ⟨h5.os, h5.tape, h5.output, Nat.le_trans (by simp) h5.size, fun k hk hS => (h5.block k (by simp; omega) hS).trans (Below.heap_alloc w _ k hk)⟩, ?_, hl⟩
  · show xs'.take (ins p.k i key).length = _
    rw [hl, h2, hp.2.1]
    simp [ins]
  · rcases h6 with h6 | h6
    · exact .inl h6
    · right; simp at h6; omega

theorem addK_at {L : List Blk} {b : Nat} {p : Blk} (hp : L[b]? = some p) {key : ByteArray} (hb : atB (keysOf L) key = b) :
    addK (keysOf L) key = keysOf (L.take b) ++ cutBlk (ins p.k (low p.k key) key) ++ keysOf (L.drop (b + 1)) := by
  have hne : keysOf L ≠ [] := by
    intro e
    have h1 := keys_get hp
    rw [e] at h1; simp at h1
  have hg : (keysOf L).getD b [] = p.k := by rw [List.getD_eq_getElem?_getD, keys_get hp]; rfl
  unfold addK
  rw [if_neg hne, hb, hg]
  simp [keysOf]

theorem set_split {α : Type} (l : List α) (b : Nat) (x : α) (h : b < l.length) : l.set b x = l.take b ++ [x] ++ l.drop (b + 1) := by
  rw [List.set_eq_take_append_cons_drop, if_pos h]; simp

theorem foot_in {L : List Blk} {b : Nat} {p : Blk} (hp : L[b]? = some p) {bs G G2 S : Nat} {N : List Blk} (hfr : ∀ x ∈ G2 :: N.map Blk.g, x = G ∨ x = p.g ∨ S ≤ x) :
    ∀ x ∈ bs :: G2 :: (L.take b ++ N ++ L.drop (b + 1)).map Blk.g, x ∈ bs :: G :: L.map Blk.g ∨ S ≤ x := by
  have hpm : p ∈ L := List.mem_of_getElem? hp
  intro x hx
  rcases List.mem_cons.1 hx with rfl | hx
  · left; simp
  · have hcase : x ∈ G2 :: N.map Blk.g ∨ x ∈ L.map Blk.g := by
      rcases List.mem_cons.1 hx with rfl | hx
      · left; simp
      · rw [List.map_append, List.map_append] at hx
        simp only [List.mem_append] at hx
        rcases hx with (hx | hx) | hx
        · right; rw [List.map_take] at hx; exact List.mem_of_mem_take hx
        · left; exact List.mem_cons_of_mem _ hx
        · right; rw [List.map_drop] at hx; exact List.mem_of_mem_drop hx
    rcases hcase with h | h
    · rcases hfr x h with e | e | e
      · left; simp [e]
      · left; rw [e]; exact List.mem_cons_of_mem _ (List.mem_cons_of_mem _ (List.mem_map_of_mem hpm))
      · exact .inr e
    · left; exact List.mem_cons_of_mem _ (List.mem_cons_of_mem _ h)

theorem add_done1 {w w1 : World} {bs G b g' : Nat} {ys xs' : List Value} {L : List Blk} {p : Blk} {key : ByteArray} (hR : Rep w bs G ys L) (hp : L[b]? = some p) (hb : atB (keysOf L) key = b)
    (hq : (Blk.mk g' xs' (ins p.k (low p.k key) key)).ok w1) (hT : Touch (· = p.g) w w1) (hg : g' = p.g ∨ w.heap.size ≤ g') (hlen : (ins p.k (low p.k key) key).length = p.k.length + 1) (h512 : p.k.length + 1 ≤ 512)
    (r1 : w1.heap[bs]? = some (.cells #[.slice (some ⟨G, 0, none⟩) L.length ys.length] 41 (0, 0))) (r2 : w1.heap[G]? = some (.cells ys.toArray 22 (0, 0))) (hbsG : bs ≠ G) (hGp : G ≠ p.g) :
    APost w bs (bs :: G :: L.map Blk.g) (addK (keysOf L) key) (.returned (.tuple #[])) (w1.setCell ⟨G, b, none⟩ (.slice (some ⟨g', 0, none⟩) (p.k.length + 1) xs'.length)) := by
  have hblt : b < L.length := (List.getElem?_eq_some_iff.1 hp).1
  have hpm : p ∈ L := List.mem_of_getElem? hp
  have hGlt : G < w.heap.size := (Array.getElem?_eq_some_iff.1 hR.row).1
  have hyl := hR.yl
  obtain ⟨q, hqq⟩ : ∃ q, Blk.mk g' xs' (ins p.k (low p.k key) key) = q := ⟨_, rfl⟩
  have hqv : Value.slice (some ⟨g', 0, none⟩) (p.k.length + 1) xs'.length = q.val := by rw [← hqq]; unfold Blk.val; rw [hlen]
  have hqg : q.g = g' := by rw [← hqq]
  have hqk : q.k = ins p.k (low p.k key) key := by rw [← hqq]
  rw [hqq] at hq
  rw [hqv]
  have hl : (L.take b ++ [q] ++ L.drop (b + 1)).length = L.length := by rw [← set_split L b q hblt]; simp
  have hqG : q.g ≠ G := by rw [hqg]; rcases hg with h | h; exact fun e => hGp (e.symm.trans h); omega
  have hfr : ∀ x ∈ G :: [q].map Blk.g, x = G ∨ x = p.g ∨ w.heap.size ≤ x := by
    intro x hx
    simp at hx
    rcases hx with rfl | rfl
    · exact .inl rfl
    · rw [hqg]; exact .inr hg
  refine ⟨rfl, bs :: G :: (L.take b ++ [q] ++ L.drop (b + 1)).map Blk.g, .inr ⟨?_, G, ys.set b q.val, L.take b ++ [q] ++ L.drop (b + 1), rfl, ?_, ?_⟩, ?_, foot_in hp hfr⟩
  · rw [addK_at hp hb]; unfold cutBlk; rw [if_pos (by rw [hlen]; exact h512)]; simp
  · refine hR.rebuild hp [q] ?_ (set_row b _ r2) ?_ (by rw [hl]; simpa using hyl) (by simpa using hR.ym) ?_ ?_ (by simpa using fun e => hqG e.symm) hfr
    · rw [hl, List.length_set, Below.heap_setCell _ _ _ _ hbsG]; exact r1
    · rw [hl, List.take_set, hR.ytake, ← set_split L b q hblt, List.map_set]
    · intro x hx
      simp at hx; subst hx
      exact Blk.ok_of hq (Below.heap_setCell _ _ _ _ hqG)
    · exact (hT.mono (fun k _ h => .inr (.inr h))).setCell (fun _ => .inr (.inl rfl)) _
  · rw [addK_at hp hb]; unfold cutBlk; rw [if_pos (by rw [hlen]; exact h512), ← hqk]; simp [keysOf]
  · exact (hT.mono (fun k _ h => by rw [h]; exact List.mem_cons_of_mem _ (List.mem_cons_of_mem _ (List.mem_map_of_mem hpm)))).setCell (fun _ => by simp) _

theorem add_done2 {w w1 w3 w5 : World} {bs G b g' g2 G2 : Nat} {ys xs' xs3 xs2 ys2 : List Value} {L : List Blk} {p : Blk} {key : ByteArray} (hR : Rep w bs G ys L) (hp : L[b]? = some p) (hb : atB (keysOf L) key = b)
    (h513 : (ins p.k (low p.k key) key).length = 513)
    (hq1 : (Blk.mk g' xs3 ((ins p.k (low p.k key) key).take 256)).ok w3) (hx3 : xs3.length = xs'.length) (hq2 : (Blk.mk g2 xs2 ((ins p.k (low p.k key) key).drop 256)).ok w3)
    (hT : Touch (· = p.g) w w1) (hT3 : Touch (· = g') w1 w3) (hg : g' = p.g ∨ w.heap.size ≤ g') (hg2 : w1.heap.size ≤ g2) (hg12 : g2 ≠ g')
    (r1 : w3.heap[bs]? = some (.cells #[.slice (some ⟨G, 0, none⟩) L.length ys.length] 41 (0, 0)))
    (hI : InsAfter 22 ((w3.setCell ⟨G, b, none⟩ (.slice (some ⟨g', 0, none⟩) 256 xs'.length)).alloc (.cells #[.slice (some ⟨g2, 0, none⟩) 257 xs2.length] 22)).drew G L.length (ys.set b (.slice (some ⟨g', 0, none⟩) 256 xs'.length)) (b + 1) (.slice (some ⟨g2, 0, none⟩) 257 xs2.length) G2 ys2 w5)
    (hbsG : bs ≠ G) (hGp : G ≠ p.g) (hbsp : bs ≠ p.g) :
    w5.heap[bs]? = some (.cells #[.slice (some ⟨G, 0, none⟩) L.length ys.length] 41 (0, 0)) ∧
    APost w bs (bs :: G :: L.map Blk.g) (addK (keysOf L) key) (.returned (.tuple #[])) (w5.setCell ⟨bs, 0, none⟩ (.slice (some ⟨G2, 0, none⟩) (L.length + 1) ys2.length)) := by
  obtain ⟨i1, i2, i3, i4, i5, i6⟩ := hI
  have hblt : b < L.length := (List.getElem?_eq_some_iff.1 hp).1
  have hpm : p ∈ L := List.mem_of_getElem? hp
  have hGlt : G < w.heap.size := (Array.getElem?_eq_some_iff.1 hR.row).1
  have hbslt : bs < w.heap.size := (Array.getElem?_eq_some_iff.1 hR.ptr).1
  have hyl := hR.yl
  have s1 := hT.size
  have s3 := hT3.size
  have hg'lt : g' < w3.heap.size := Blk.lt hq1
  have hg2lt : g2 < w3.heap.size := Blk.lt hq2
  obtain ⟨q1, hqq1⟩ : ∃ q, Blk.mk g' xs3 ((ins p.k (low p.k key) key).take 256) = q := ⟨_, rfl⟩
  obtain ⟨q2, hqq2⟩ : ∃ q, Blk.mk g2 xs2 ((ins p.k (low p.k key) key).drop 256) = q := ⟨_, rfl⟩
  have hqv1 : Value.slice (some ⟨g', 0, none⟩) 256 xs'.length = q1.val := by rw [← hqq1]; unfold Blk.val; simp [h513, hx3]
  have hqv2 : Value.slice (some ⟨g2, 0, none⟩) 257 xs2.length = q2.val := by rw [← hqq2]; unfold Blk.val; simp [h513]
  have hqg1 : q1.g = g' := by rw [← hqq1]
  have hqg2 : q2.g = g2 := by rw [← hqq2]
  have hqk1 : q1.k = (ins p.k (low p.k key) key).take 256 := by rw [← hqq1]
  have hqk2 : q2.k = (ins p.k (low p.k key) key).drop 256 := by rw [← hqq2]
  rw [hqq1] at hq1
  rw [hqq2] at hq2
  rw [hqv1] at i2 i5 i6
  rw [hqv2] at i2 i5 i6
  -- the worlds
  have sz : (((w3.setCell ⟨G, b, none⟩ q1.val).alloc (.cells #[q2.val] 22)).drew).heap.size = w3.heap.size + 1 := by
    show ((w3.setCell ⟨G, b, none⟩ q1.val).alloc (.cells #[q2.val] 22)).heap.size = _
    rw [World.size_alloc, size_set]
  have hblk : ∀ k, k < w3.heap.size → k ≠ G → w5.heap[k]? = w3.heap[k]? := by
    intro k hk hkG
    rw [i5.block k (by rw [sz]; omega) hkG]
    show ((w3.setCell ⟨G, b, none⟩ q1.val).alloc (.cells #[q2.val] 22)).heap[k]? = _
    rw [Below.heap_alloc _ _ k (by rw [size_set]; exact hk), Below.heap_setCell _ _ _ _ hkG]
  have sz5 : w3.heap.size + 1 ≤ w5.heap.size := by have := i5.size; rw [sz] at this; exact this
  have t5 : Touch (· = G) w3 w5 := ⟨i5.os, i5.tape, i5.output, by omega, fun k hk hn => hblk k hk hn⟩
  have r5 : w5.heap[bs]? = some (.cells #[.slice (some ⟨G, 0, none⟩) L.length ys.length] 41 (0, 0)) := (hblk bs (by omega) hbsG).trans r1
  have hG2c : G2 = G ∨ w3.heap.size + 1 ≤ G2 := by rcases i6 with h | h; exact .inl h; right; rw [sz] at h; exact h
  have n1 : q1.g ≠ G := by rw [hqg1]; rcases hg with h | h; exact fun e => hGp (e.symm.trans h); omega
  have n2 : q2.g ≠ G := by rw [hqg2]; omega
  have n3 : q1.g ≠ bs := by rw [hqg1]; rcases hg with h | h; exact fun e => hbsp (e.symm.trans h); omega
  have n4 : q2.g ≠ bs := by rw [hqg2]; omega
  have n5 : G2 ≠ q1.g := by rw [hqg1]; rcases hG2c with h | h; rw [h]; exact fun e => n1 (hqg1.trans e.symm); omega
  have n6 : G2 ≠ q2.g := by rw [hqg2]; rcases hG2c with h | h; rw [h]; exact fun e => n2 (hqg2.trans e.symm); omega
  have n7 : G2 ≠ bs := by rcases hG2c with h | h; rw [h]; exact fun e => hbsG e.symm; omega
  have hl : (L.take b ++ [q1, q2] ++ L.drop (b + 1)).length = L.length + 1 := by
    simp only [List.length_append, List.length_take, List.length_drop, List.length_cons, List.length_nil]; omega
  have hfr : ∀ x ∈ G2 :: [q1, q2].map Blk.g, x = G ∨ x = p.g ∨ w.heap.size ≤ x := by
    intro x hx
    simp at hx
    rcases hx with rfl | rfl | rfl
    · rcases hG2c with h | h; exact .inl h; right; right; omega
    · rw [hqg1]; exact .inr hg
    · rw [hqg2]; right; right; omega
  have hTT : Touch (fun k => k = bs ∨ k = G ∨ k = p.g) w w3 := (hT.mono (fun k _ h => .inr (.inr h))).trans' hT3 (fun k hk h => by
    rcases hg with e | e
    · exact .inr (.inr (h.trans e))
    · omega)
  have hT5 : Touch (fun k => k = bs ∨ k = G ∨ k = p.g) w w5 := hTT.trans' t5 (fun k hk h => .inr (.inl h))
  have hcut : cutBlk (ins p.k (low p.k key) key) = [q1.k, q2.k] := by
    unfold cutBlk; rw [if_neg (by omega), hqk1, hqk2, h513]
  refine ⟨r5, rfl, bs :: G2 :: (L.take b ++ [q1, q2] ++ L.drop (b + 1)).map Blk.g, .inr ⟨?_, G2, ys2, L.take b ++ [q1, q2] ++ L.drop (b + 1), rfl, ?_, ?_⟩, ?_, foot_in hp hfr⟩
  · rw [addK_at hp hb, hcut]; simp
  · refine hR.rebuild hp [q1, q2] ?_ ?_ ?_ (by rw [hl]; exact i3) i4 ?_ (hT5.setCell (fun _ => .inl rfl) _) ?_ hfr
    · rw [hl]; exact set_one _ r5
    · rw [Below.heap_setCell _ _ _ _ n7]; exact i1
    · rw [hl, i2]
      have e1 : (ys.set b q1.val).take L.length = (L.take b ++ [q1] ++ L.drop (b + 1)).map Blk.val := by
        rw [List.take_set, hR.ytake, ← List.map_set, set_split L b q1 hblt]
      rw [e1, List.map_append, List.map_append]
      have e2 : ((L.take b).map Blk.val ++ [q1].map Blk.val).length = b + 1 := by simp; omega
      rw [← e2, List.take_left, List.drop_left]
      simp
    · intro x hx
      simp at hx
      rcases hx with rfl | rfl
      · exact Blk.ok_of hq1 ((Below.heap_setCell _ _ _ _ n3).trans (hblk _ (by omega) n1))
      · exact Blk.ok_of hq2 ((Below.heap_setCell _ _ _ _ n4).trans (hblk _ (by omega) n2))
    · simp only [List.map_cons, List.map_nil, List.nodup_cons, List.mem_cons, List.not_mem_nil, or_false, not_or, not_false_iff, List.nodup_nil, and_true]
      exact ⟨⟨n5, n6⟩, by rw [hqg1, hqg2]; exact fun e => hg12 e.symm⟩
  · rw [addK_at hp hb, hcut]; simp [keysOf]
  · exact (hT5.mono (fun k _ h => by
      rcases h with h | h | h
      · rw [h]; simp
      · rw [h]; simp
      · rw [h]; exact List.mem_cons_of_mem _ (List.mem_cons_of_mem _ (List.mem_map_of_mem hpm)))).setCell (fun _ => by simp) _

set_option maxHeartbeats 2000000 in
set_option maxRecDepth 100000 in
theorem add_step (bs G : Nat) (ys : List Value) (L : List Blk) (key : ByteArray) (w : World) (hR : Rep w bs G ys L) (hK : Inv (keysOf L)) (hL : L.length ≤ 100000) (hne : L ≠ []) :
    Calls Try.prog 21 #[.pointer (some ⟨bs, 0, none⟩), .string key] w (APost w bs (bs :: G :: L.map Blk.g) (addK (keysOf L) key)) := by
  have hLp : 0 < L.length := List.length_pos_iff.2 hne
  have hlow := lowB_le (keysOf L) key
  rw [keys_len] at hlow
  obtain ⟨b, hb⟩ : ∃ b, atB (keysOf L) key = b := ⟨_, rfl⟩
  have hblt : b < L.length := by rw [← hb]; unfold atB; rw [keys_len]; omega
  obtain ⟨p, hp⟩ : ∃ p, L[b]? = some p := ⟨L[b], by simp⟩
  have hpm : p ∈ L := List.mem_of_getElem? hp
  have hpo := hR.ok p hpm
  have hpl := hK.le _ (List.mem_map_of_mem (f := Blk.k) hpm)
  have hi := low_le p.k key
  have hplt := Blk.lt hpo
  have hvl : (w.alloc (.cells #[.string key] 9)).heap[w.heap.size]? = some (.cells #[.string key] 9 (0, 0)) := Go.heap_alloc_new w _
  have IN := hide (ins25 p.g p.k.length p.xs.length (low p.k key) w.heap.size p.xs (.string key) (w.alloc (.cells #[.string key] 9)) ((Below.heap_alloc w _ p.g hplt).trans hpo.1) hpo.2.2.1 rfl hpo.2.2.2 hi (by omega) hvl (by omega) (by rw [hpo.2.1]; exact strs_one _) rfl)
  have hc := hR.cellPtr
  have hcb := hR.cellRow b p hp
  unfold Blk.val at hcb
  have hz0 : ((L.length : Int) == 0) = false := by simp; omega
  have hnd := hR.nd
  have hbsG : bs ≠ G := by
    have := (List.nodup_cons.1 hnd).1
    intro e; exact this (by rw [e]; exact List.mem_cons_self ..)
  have hbsp : bs ≠ p.g := by
    have := (List.nodup_cons.1 hnd).1
    intro e; exact this (by rw [e]; exact List.mem_cons_of_mem _ (List.mem_map_of_mem hpm))
  have hGp : G ≠ p.g := by
    have := (List.nodup_cons.1 (List.nodup_cons.1 hnd).2).1
    intro e; exact this (by rw [e]; exact List.mem_map_of_mem hpm)
  have hbslt : bs < w.heap.size := (Array.getElem?_eq_some_iff.1 hR.ptr).1
  have hGlt : G < w.heap.size := (Array.getElem?_eq_some_iff.1 hR.row).1
  have hyl := hR.yl
  have hym := hR.ym
  unfold maxLen at hym
  have hbK : Hid (atB (keysOf L) key = b) := hb
  rcases (show (lowB (keysOf L) key = b) ∨ (lowB (keysOf L) key = L.length ∧ b = L.length - 1) from by
    rw [← hb]; unfold atB; rw [keys_len]; omega) with h | ⟨h, hbL⟩
  case' inl =>
    have Fi := hide (find_in bs G ys L key w hR hK (by omega) p (by rw [h]; exact hp))
    rw [h] at Fi
    have hbn : ((b : Int) == (L.length : Int)) = false := by simp; omega
    have HR := hide hR
    have HK := hide hK
    have HP := hide hp
    have HO := hide hpo
    obtain ⟨i, hieq⟩ : ∃ i, low p.k key = i := ⟨_, rfl⟩
    obtain ⟨f, hf⟩ : ∃ f, decide (low p.k key < p.k.length ∧ p.k.getD (low p.k key) ByteArray.empty = key) = f := ⟨_, rfl⟩
    rw [hf] at Fi
    rw [hieq] at IN Fi
    have HI : Hid (low p.k key = i) := hieq
    clear hf hi
    clear hR hK hp hpo hieq hnd hb h hlow hvl
    go_enter Try.func21, Try.ntmps21
    go_wp2_with fail
    refine (Fi.out).mono ?_
    rintro e w ⟨rfl, rfl⟩
    go_wp2_with fail
    refine (IN.out).mono ?_
    rintro e w1 ⟨g', xs', rfl, hA⟩
    rw [← HI.out] at hA
  case' inr =>
    have hfull := low_out hK key h hp
    have Fi := hide (find_out bs G ys L key w hR hK (by omega) h)
    rw [hfull] at IN
    have HR := hide hR
    have HK := hide hK
    have HP := hide hp
    have HO := hide hpo
    have HFu := hide hfull
    have hb1 : ((L.length : Int) - 1).toNat = b := by omega
    have hq1 : b + 1 ≤ L.length := by omega
    have hq2 : L.length ≤ b + 1 := by omega
    clear hR hK hp hpo hfull hnd hb h hlow hvl hi hbL
    go_enter Try.func21, Try.ntmps21
    go_wp2_with fail
    refine (Fi.out).mono ?_
    rintro e w ⟨rfl, rfl⟩
    go_wp2_with fail
    refine (IN.out).mono ?_
    rintro e w1 ⟨g', xs', rfl, hA⟩
    have hA : InsAfter 9 (w.alloc (.cells #[.string key] 9)) p.g p.k.length p.xs (low p.k key) (.string key) g' xs' w1 := by rw [HFu.out]; exact hA
  all_goals
    have hil : low p.k key ≤ p.k.length := low_le _ _
    obtain ⟨hq, hT1, hg', hlen⟩ := ins_blk HO.out key hil hA
    have r1 : w1.heap[bs]? = some (.cells #[.slice (some ⟨G, 0, none⟩) L.length ys.length] 41 (0, 0)) := (hT1.block bs hbslt hbsp).trans HR.out.ptr
    have r2 : w1.heap[G]? = some (.cells ys.toArray 22 (0, 0)) := (hT1.block G hGlt hGp).trans HR.out.row
    have c1 : w1.cell? ⟨bs, 0, none⟩ = some (.slice (some ⟨G, 0, none⟩) L.length ys.length) := by rw [cell_of_row w1 bs 0 _ _ _ r1]; rfl
    have c2 : w1.cell? ⟨G, b, none⟩ = some (.slice (some ⟨p.g, 0, none⟩) p.k.length p.xs.length) := (World.cell?_of_block (w := w) (hT1.block G hGlt hGp)).trans hcb
    have c3 : w1.frozen? ⟨G, b, none⟩ = false := by simp [World.frozen?, r2]
    have HQ := hide hq
    have HT := hide hT1
    have HG := hide hg'
    have R1 := hide r1
    have R2 := hide r2
    have HLen := hide hlen
    have hx1 := hq.2.2.1
    have hx2 := hq.2.2.2
    simp only [hlen] at hx1
    unfold maxLen at hx2
    simp only [] at hx2
    clear hq hT1 hg' r1 r2 hlen IN Fi hc hcb
    by_cases h512 : p.k.length + 1 ≤ 512
    · go_wp2
      go_end0
      exact add_done1 HR.out HP.out hbK.out HQ.out HT.out HG.out HLen.out h512 R1.out R2.out hbsG hGp
    · have hn1 : p.k.length = 512 := by omega
      obtain ⟨k', hk'⟩ : ∃ k', ins p.k (low p.k key) key = k' := ⟨_, rfl⟩
      rw [hk'] at HQ HLen
      have HK' := hide hk'
      have hL513 : k'.length = 513 := by rw [HLen.out, hn1]
      have CL := hide (cl26 (some ⟨g', 256, none⟩) 257 (xs'.length - 256) ((k'.drop 256).map Value.string) w1 (by simp [hL513]) (by omega) (by simp)
        (fun _ => ⟨⟨g', 256, none⟩, rfl, Blk.lt HQ.out, fun j u hu => by
          rw [Addr.add_lit]
          rw [List.getElem?_map, Option.map_eq_some_iff] at hu
          obtain ⟨s, hs, rfl⟩ := hu
          rw [List.getElem?_drop] at hs
          exact Blk.cell HQ.out (256 + j) s hs⟩) (strs_one _))
      have hx3 : 513 ≤ xs'.length := by omega
      rw [hn1]
      have hn2 : p.k.length ≤ 512 := by omega
      clear hk' h512 hn1
      go_wp2_with fail
      refine (CL.out).mono ?_
      rintro e w2 ⟨g2, xs2, rfl, l1, l2, l3, l4, l5, l6⟩
      have hg'lt : g' < w1.heap.size := Blk.lt HQ.out
      have hw1 := HT.out.size
      obtain ⟨m1, m2, m3⟩ := run_clr (P := Try.prog) w2 22 9 (.string ByteArray.empty) Try.underlying22 (fun w => by kernel_rfl) rfl rfl g' 256 257 (xs'.length - 256) (by omega) xs' ((l5.block g' hg'lt).trans HQ.out.1) (by omega)
      obtain ⟨w3, hw3⟩ : ∃ w3, clrW w2 g' xs' 256 257 (.string ByteArray.empty) = w3 := ⟨_, rfl⟩
      rw [hw3] at m1 m2 m3
      have hl5s := l5.size
      have hg2 : g2 ≠ g' := by omega
      have b1 : w3.heap[bs]? = some (.cells #[.slice (some ⟨G, 0, none⟩) L.length ys.length] 41 (0, 0)) := (m3.block bs (fun e => by rcases HG.out with h | h; exact hbsp (e.trans h); omega)).trans ((l5.block bs (by omega)).trans R1.out)
      have b2 : w3.heap[G]? = some (.cells ys.toArray 22 (0, 0)) := (m3.block G (fun e => by rcases HG.out with h | h; exact hGp (e.trans h); omega)).trans ((l5.block G (by omega)).trans R2.out)
      have b3 : w3.heap[g2]? = some (.cells xs2.toArray 9 (0, 0)) := (m3.block g2 hg2).trans l1
      have d1 : w3.cell? ⟨bs, 0, none⟩ = some (.slice (some ⟨G, 0, none⟩) L.length ys.length) := by rw [cell_of_row w3 bs 0 _ _ _ b1]; rfl
      have d2 : w3.cell? ⟨G, b, none⟩ = some (.slice (some ⟨p.g, 0, none⟩) p.k.length p.xs.length) := by
        rw [cell_of_row w3 G b _ _ _ b2]
        have := HR.out.cellRow b p HP.out
        rw [cell_of_row w G b _ _ _ HR.out.row] at this
        exact this
      have d3 : w3.frozen? ⟨G, b, none⟩ = false := by simp [World.frozen?, b2]
      have i1 : (b : Int) < (L.length : Int) := by omega
      have L1 := hide l1
      have L2 := hide l2
      have L5 := hide l5
      have M2 := hide m2
      have M3 := hide m3
      have B1 := hide b1
      have B2 := hide b2
      have B3 := hide b3
      have hk3 : (k'.drop 256).length = 257 := by simp [hL513]
      rw [List.length_map, hk3] at l3 ⊢
      clear l1 l2 l5 m2 m3 b1 b2 b3 hw3 c1 c2 c3
      -- what the second Insert needs
      have hGlt3 : G < w3.heap.size := (Array.getElem?_eq_some_iff.1 B2.out).1
      have hz1 : (w3.setCell ⟨G, b, none⟩ (.slice (some ⟨g', 0, none⟩) 256 xs'.length)).heap.size = w3.heap.size := size_set _ _ _
      have IN2 := hide (ins27 G L.length ys.length (b + 1) w3.heap.size (ys.set b (.slice (some ⟨g', 0, none⟩) 256 xs'.length)) (.slice (some ⟨g2, 0, none⟩) 257 xs2.length)
        ((w3.setCell ⟨G, b, none⟩ (.slice (some ⟨g', 0, none⟩) 256 xs'.length)).alloc (.cells #[.slice (some ⟨g2, 0, none⟩) 257 xs2.length] 22)).drew
        ((Below.heap_alloc _ _ G (by rw [hz1]; exact hGlt3)).trans (set_row b _ B2.out)) hyl (by simp) (by unfold maxLen; omega) (by omega) (by omega)
        (by rw [← hz1]; exact Go.heap_alloc_new _ _) (by omega)
        (by
          intro u hu
          rw [List.take_set, HR.out.ytake] at hu
          rcases List.mem_or_eq_of_mem_set hu with hu | hu
          · obtain ⟨q, _, rfl⟩ := List.mem_map.1 hu; rfl
          · subst hu; rfl) rfl)
      clear hz1
      go_wp2
      go_region
      go_wp2_with fail
      first
        | (rw [show ((b : Int) + 1) = ((b + 1 : Nat) : Int) from by omega]
           refine (IN2.out).mono ?_
           rintro e w5 ⟨G2, ys2, rfl, hI⟩)
        | (have hbl : b + 1 = L.length := by omega
           rw [hbl] at IN2
           refine (IN2.out).mono ?_
           rintro e w5 ⟨G2, ys2, rfl, hI0⟩
           have hI : InsAfter 22 ((w3.setCell ⟨G, b, none⟩ (.slice (some ⟨g', 0, none⟩) 256 xs'.length)).alloc (.cells #[.slice (some ⟨g2, 0, none⟩) 257 xs2.length] 22)).drew G L.length (ys.set b (.slice (some ⟨g', 0, none⟩) 256 xs'.length)) (b + 1) (.slice (some ⟨g2, 0, none⟩) 257 xs2.length) G2 ys2 w5 := by rw [hbl]; exact hI0
           clear hI0 hbl)
      obtain ⟨xs3, hxs3⟩ : ∃ xs3, splice xs' 256 (List.replicate 257 (Value.string ByteArray.empty)) = xs3 := ⟨_, rfl⟩
      have hxl3 : xs3.length = xs'.length := by rw [← hxs3]; exact length_splice _ _ _ (by simp; omega)
      have hq1 : (Blk.mk g' xs3 ((ins p.k (low p.k key) key).take 256)).ok w3 := by
        refine ⟨by rw [← hxs3]; exact M2.out, ?_, ?_, ?_⟩
        · show xs3.take ((ins p.k (low p.k key) key).take 256).length = _
          rw [HK'.out, List.length_take, hL513, ← hxs3]
          unfold splice
          rw [show min 256 513 = 256 from rfl, List.take_append_of_le_length (by simp; omega), List.take_take, Nat.min_self]
          have hq := HQ.out.2.1
          simp only at hq
          have e := congrArg (List.take 256) hq
          rw [List.take_take, Nat.min_eq_left (by omega), ← List.map_take] at e
          exact e
        · show ((ins p.k (low p.k key) key).take 256).length ≤ xs3.length
          rw [hxl3, List.length_take]; omega
        · show xs3.length ≤ maxLen
          rw [hxl3]; unfold maxLen; omega
      have hq2 : (Blk.mk g2 xs2 ((ins p.k (low p.k key) key).drop 256)).ok w3 := by
        refine ⟨B3.out, ?_, ?_, l4⟩
        · show xs2.take ((ins p.k (low p.k key) key).drop 256).length = _
          rw [HK'.out]
          have h := L2.out
          rw [List.length_map] at h
          exact h
        · show ((ins p.k (low p.k key) key).drop 256).length ≤ xs2.length
          rw [HK'.out, hk3]; exact l3
      have hT3 : Touch (· = g') w1 w3 := (show Touch (· = g') w1 w2 from ⟨L5.out.os, L5.out.tape, L5.out.output, L5.out.size, fun k hk _ => L5.out.block k hk⟩).trans M3.out.touch
      have D := add_done2 (ys2 := ys2) HR.out HP.out hbK.out (by rw [HK'.out]; exact hL513) hq1 hxl3 hq2 HT.out hT3 HG.out l6 hg2 B1.out hI hbsG hGp hbsp
      have e5 : w5.cell? ⟨bs, 0, none⟩ = some (.slice (some ⟨G, 0, none⟩) L.length ys.length) := by rw [cell_of_row w5 bs 0 _ _ _ D.1]; rfl
      have f5 : w5.frozen? ⟨bs, 0, none⟩ = false := by simp [World.frozen?, D.1]
      have HD := hide D.2
      clear D hI hq1 hq2 hT3 hxs3 hxl3 d1 d2 d3
      go_wp2
      go_end0
      exact HD.out

/-- add, whatever the set holds -/
theorem add_any (bs : Nat) (F : List Nat) (K : List (List ByteArray)) (key : ByteArray) (w : World) (hS : St w bs F K) (hK : Inv K) (hL : K.length ≤ 100000) :
    Calls Try.prog 21 #[.pointer (some ⟨bs, 0, none⟩), .string key] w (APost w bs F (addK K key)) := by
  rcases hS with ⟨rfl, rfl, a, c, h, _⟩ | ⟨hne, G, ys, L, rfl, hR, rfl⟩
  · exact add_empty bs a c key w h
  · exact add_step bs G ys L key w hR hK (by rw [← keys_len]; exact hL) (fun e => hne (by rw [e]; rfl))

set_option maxHeartbeats 400000 in
theorem zzadd_any (bs : Nat) (F : List Nat) (K : List (List ByteArray)) (key : ByteArray) (w : World) (hS : St w bs F K) (hK : Inv K) (hL : K.length ≤ 100000) :
    Calls Try.prog 10 #[.pointer (some ⟨bs, 0, none⟩), .string key] w (APost w bs F (addK K key)) := by
  have H := hide (add_any bs F K key w hS hK hL)
  clear hS hK
  go_enter Try.func10, Try.ntmps10
  go_wp2_with (go_at_call 21; refine (H.out).mono ?_; rintro e w' ⟨rfl, hq⟩)
  go_end0
  exact ⟨rfl, by assumption⟩
end Go.Proofs.Qxb6606313a
