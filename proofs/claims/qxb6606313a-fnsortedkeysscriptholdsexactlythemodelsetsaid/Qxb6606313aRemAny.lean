/-
  (*sortedKeys).remove, whatever the set holds; the guard of the law; the list beside the set. Not trusted: the kernel checks it.
-/
import Derived.Test.Qxb6606313aRemove
namespace Go.Proofs.Qxb6606313a
open Go.RowKit Go.Deep
set_option linter.unusedVariables false

set_option maxHeartbeats 1000000 in
theorem rem_not (bs b i : Nat) (F : List Nat) (K : List (List ByteArray)) (key : ByteArray) (w : World) (hF : Calls Try.prog 24 #[.pointer (some ⟨bs, 0, none⟩), .string key] w (FPost b i false w)) (hS : St w bs F K) (hK : Inv K) (hno : key ∉ K.flatten) :
    Calls Try.prog 28 #[.pointer (some ⟨bs, 0, none⟩), .string key] w (RPost w bs F K key) := by
  have HF := hide hF
  have HP : Hid (RPost w bs F K key (.returned (.tuple #[])) w) := ⟨rfl, F, K, hS, rpl_same hK hno, Touch.refl _ _, fun x hx => .inl hx⟩
  clear hF hS hK hno
  go_enter Try.func28, Try.ntmps28
  go_wp2_with fail
  refine (HF.out).mono ?_
  rintro e w ⟨rfl, rfl⟩
  go_wp2
  go_end0
  exact HP.out

theorem rem_any (bs : Nat) (F : List Nat) (K : List (List ByteArray)) (key : ByteArray) (w : World) (hS : St w bs F K) (hK : Inv K) (hL : K.length ≤ 100000) :
    Calls Try.prog 28 #[.pointer (some ⟨bs, 0, none⟩), .string key] w (RPost w bs F K key) := by
  have hS0 := hS
  rcases hS with ⟨rfl, rfl, a, c, h, _⟩ | ⟨hne, G, ys, L, rfl, hR, rfl⟩
  · exact rem_not bs 0 0 _ _ key w (find_none bs a c key w h) hS0 hK (by simp)
  · rw [keys_len] at hL
    have hlow := lowB_le (keysOf L) key
    rw [keys_len] at hlow
    by_cases hout : lowB (keysOf L) key = L.length
    · exact rem_not bs _ _ _ _ key w (find_out bs G ys L key w hR hK (by omega) hout) hS0 hK (not_in_out hK key (by rw [keys_len]; exact hout))
    · have hlt : lowB (keysOf L) key < L.length := by omega
      have hp : L[lowB (keysOf L) key]? = some L[lowB (keysOf L) key] := by simp
      by_cases hf : low L[lowB (keysOf L) key].k key < L[lowB (keysOf L) key].k.length ∧ L[lowB (keysOf L) key].k.getD (low L[lowB (keysOf L) key].k key) ByteArray.empty = key
      · exact rem_in bs G ys L key w hR hK hL _ hp hf
      · have Fi := find_in bs G ys L key w hR hK (by omega) _ hp
        rw [decide_eq_false hf] at Fi
        exact rem_not bs _ _ _ _ key w Fi hS0 hK (not_in_at hK key (keys_get hp) hf)

set_option maxHeartbeats 400000 in
theorem zzrem_any (bs : Nat) (F : List Nat) (K : List (List ByteArray)) (key : ByteArray) (w : World) (hS : St w bs F K) (hK : Inv K) (hL : K.length ≤ 100000) :
    Calls Try.prog 22 #[.pointer (some ⟨bs, 0, none⟩), .string key] w (RPost w bs F K key) := by
  have H := hide (rem_any bs F K key w hS hK hL)
  clear hS hK
  go_enter Try.func22, Try.ntmps22
  go_wp2_with (go_at_call 28; refine (H.out).mono ?_; rintro e w' ⟨rfl, hq⟩)
  go_end0
  exact ⟨rfl, by assumption⟩

/-! ### the guard and the script -/
/-- a slice of bools that can be read -/
def VB (w : World) (a : Option Addr) (n cap : Nat) : Prop :=
  n ≤ cap ∧ cap ≤ maxLen ∧ (0 < n → ∃ b off, a = some ⟨b, off, none⟩ ∧ b < w.heap.size ∧ ∀ i, i < n → ∃ v, w.cell? ⟨b, off + i, none⟩ = some (.bool v))

set_option maxHeartbeats 1000000 in
theorem zz19 (a : Option Addr) (n c : Nat) (l : List ByteArray) (a2 : Option Addr) (n2 c2 : Nat) (w : World) (hv : VS w a n c l) (hl : ∀ s ∈ l, s.size ≤ maxLen) (h2 : VB w a2 n2 c2) : Calls Try.prog 19 #[.slice a n c, .slice a2 n2 c2] w (BPost w) := by
  obtain ⟨v1, v2, v3, v4⟩ := hv
  unfold maxLen at v3
  have b1 := h2.1
  have b2 := h2.2.1
  unfold maxLen at b2
  clear h2
  by_cases h1 : n ≤ 1048576
  case neg =>
    go_enter Try.func19, Try.ntmps19
    go_wp2
    go_ret
    exact ⟨false, rfl, rfl⟩
  have HL := hide hl
  clear hl
  go_enter Try.func19, Try.ntmps19
  go_wp2
  go_loop [5, 6] (fun t i => ∃ k T : Nat, k ≤ n ∧ i = .int .i64 k ∧ t = .int .i64 T ∧ T ≤ 1048576) (fun _ i => n - (intOf i).toNat)
  case atStart => exact ⟨0, n, Nat.zero_le _, rfl, by go_num, h1⟩
  case round =>
    obtain ⟨k, T, hk, rfl, rfl, hT⟩ := hrel
    by_cases hlt : k < n
    · obtain ⟨b, off, hx, hblt, hc⟩ := v4 (by omega)
      subst hx
      have hkl : k < l.length := by omega
      have hck := hc k l[k] (by simp [hkl])
      have hsz := HL.out l[k] (by simp)
      unfold maxLen at hsz
      obtain ⟨s, hs⟩ : ∃ s, l[k] = s := ⟨_, rfl⟩
      rw [hs] at hck hsz
      clear hs hc v4
      by_cases hs1 : s.size ≤ 1048576
      · by_cases hs2 : T + s.size ≤ 1048576
        · go_wp2
          go_round
          case rel => exact ⟨k + 1, T + s.size, by omega, by go_num, by go_num, hs2⟩
          case measure => simp [intOf]; omega
        · go_wp2
          go_ret
          exact ⟨false, rfl, rfl⟩
      · go_wp2
        go_ret
        exact ⟨false, rfl, rfl⟩
    · clear v4
      by_cases hn2 : n2 ≤ 1048576
      · by_cases hs2 : T + n2 ≤ 1048576
        · go_wp2
          go_ret
          exact ⟨true, rfl, rfl⟩
        · go_wp2
          go_ret
          exact ⟨false, rfl, rfl⟩
      · go_wp2
        go_ret
        exact ⟨false, rfl, rfl⟩

structure PW (w : World) (bs gd n : Nat) (F : List Nat) (K : List (List ByteArray)) (D : List ByteArray) (xd : List Value) (wr : World) : Prop where
  st : St wr bs F K
  ds : Dst wr gd n xd D
  inv : Inv K
  perm : K.flatten.Perm D
  nF : gd ∉ F
  bF : ∀ x ∈ F, w.heap.size ≤ x
  bg : w.heap.size ≤ gd
  be : Below w.heap.size w wr

theorem PW.kl {w : World} {bs gd n : Nat} {F : List Nat} {K : List (List ByteArray)} {D : List ByteArray} {xd : List Value} {wr : World} (h : PW w bs gd n F K D xd wr) : K.length ≤ D.length := by
  rw [← h.perm.length_eq]; exact flat_ge h.inv.ne

theorem PW.next {w : World} {bs gd n : Nat} {F : List Nat} {K : List (List ByteArray)} {D : List ByteArray} {xd : List Value} {wr w2 w3 : World} (h : PW w bs gd n F K D xd wr) {key : ByteArray} (hk : key ∉ D)
    {F' : List Nat} (hS : St w2 bs F' (addK K key)) (hT : Touch (· ∈ F) wr w2) (hF : ∀ x ∈ F', x ∈ F ∨ wr.heap.size ≤ x) {xd' : List Value} {o : Obj}
    (h1 : w3.heap[gd]? = some (.cells xd'.toArray 9 (0, 0))) (h2 : xd'.take (D.length + 1) = xd.take D.length ++ [.string key]) (h3 : xd'.length = n) (h4 : D.length + 1 ≤ n) (h5 : Touch (· = gd) (w2.alloc o) w3) :
    PW w bs gd n F' (addK K key) (D ++ [key]) xd' w3 := by
  have hgd : gd < wr.heap.size := (Array.getElem?_eq_some_iff.1 h.ds.1).1
  have hs2 := hT.size
  have hgF' : gd ∉ F' := by
    intro e
    rcases hF gd e with e2 | e2
    · exact h.nF e2
    · omega
  have hkK : key ∉ K.flatten := fun e => hk (h.perm.mem_iff.1 e)
  have hblk : ∀ x, x < w2.heap.size → x ≠ gd → w3.heap[x]? = w2.heap[x]? := fun x hx hn => by
    rw [h5.block x (by simp; omega) hn, Below.heap_alloc _ _ _ hx]
  refine ⟨hS.of_blocks (fun x hx => hblk x (hS.lt x hx) (fun e => hgF' (e ▸ hx))), ⟨h1, h3, ?_, by simpa using h4⟩, add_inv h.inv key hkK, ?_, hgF', ?_, h.bg, ?_⟩
  · rw [List.length_append, List.length_singleton, h2, h.ds.2.2.1]; simp
  · refine (add_perm K key).trans ?_
    refine ((h.perm.cons key).trans ?_)
    exact (List.perm_append_singleton key D).symm
  · intro x hx
    rcases hF x hx with e | e
    · exact h.bF x e
    · have := h.be.size; omega
  · have b1 : Below w.heap.size w w2 := h.be.trans (hT.below (fun k hk e => by have := h.bF k e; omega) h.be.size)
    have b2 : Below w.heap.size w (w2.alloc o) := b1.alloc b1.size o
    exact b2.trans (h5.below (fun k hk e => by have := h.bg; omega) (by have := b1.size; simp; omega))

/-- the set turned, the list as it was -/
theorem PW.turn {w : World} {bs gd n : Nat} {F : List Nat} {K K' : List (List ByteArray)} {D : List ByteArray} {xd : List Value} {wr w2 : World} (h : PW w bs gd n F K D xd wr)
    {F' : List Nat} (hS : St w2 bs F' K') (hT : Touch (· ∈ F) wr w2) (hF : ∀ x ∈ F', x ∈ F ∨ wr.heap.size ≤ x) :
    St w2 bs F' K' ∧ Dst w2 gd n xd D ∧ gd ∉ F' ∧ (∀ x ∈ F', w.heap.size ≤ x) ∧ Below w.heap.size w w2 := by
  have hgd : gd < wr.heap.size := (Array.getElem?_eq_some_iff.1 h.ds.1).1
  refine ⟨hS, ⟨(hT.block gd hgd h.nF).trans h.ds.1, h.ds.2⟩, fun e => ?_, fun x hx => ?_, h.be.trans (hT.below (fun k hk e => by have := h.bF k e; omega) h.be.size)⟩
  · rcases hF gd e with e2 | e2
    · exact h.nF e2
    · omega
  · rcases hF x hx with e | e
    · exact h.bF x e
    · have := h.be.size; omega

theorem swap_out (D : List ByteArray) (j : Nat) (key last : ByteArray) (hj : D[j]? = some key) (hl : D[D.length - 1]? = some last) : D.Perm (key :: (D.set j last).dropLast) := by
  have hjl : j < D.length := (List.getElem?_eq_some_iff.1 hj).1
  have hne : D ≠ [] := fun e => by subst e; simp at hjl
  have hlast : D.getLast hne = last := by
    have h := List.getLast?_eq_getElem? (l := D)
    rw [hl, List.getLast?_eq_some_getLast hne] at h
    exact Option.some.inj h
  have hD : D = D.dropLast ++ [last] := by rw [← hlast]; exact (List.dropLast_concat_getLast hne).symm
  obtain ⟨E, hE⟩ : ∃ E, D.dropLast = E := ⟨_, rfl⟩
  rw [hE] at hD
  have hEl : E.length = D.length - 1 := by rw [← hE]; simp
  clear hE hlast hl
  by_cases e : j = E.length
  · subst e
    rw [hD] at hj ⊢
    simp at hj
    subst hj
    rw [List.set_append_right _ _ (Nat.le_refl _)]
    simp
  · have hjE : j < E.length := by omega
    have hj2 : E[j]? = some key := by rw [hD, List.getElem?_append_left hjE] at hj; exact hj
    rw [hD, List.set_append_left _ _ hjE, List.dropLast_concat]
    have e1 := split_at E j key hj2
    have e2 : E.set j last = E.take j ++ last :: E.drop (j + 1) := by rw [set_split E j last hjE]; simp
    rw [e2]
    conv => lhs; rw [e1]
    have h1 : (E.take j ++ key :: E.drop (j + 1) ++ [last]).Perm (key :: (E.take j ++ E.drop (j + 1) ++ [last])) := by
      rw [List.append_assoc]
      refine (List.perm_middle).trans ?_
      simp
    refine h1.trans (List.Perm.cons _ ?_)
    refine (List.perm_append_singleton last _).trans ?_
    exact List.perm_middle.symm

theorem Dst.shrink {w : World} {gd n : Nat} {xd : List Value} {C : List ByteArray} (h : Dst w gd n xd C) : Dst w gd n xd C.dropLast := by
  obtain ⟨h1, h2, h3, h4⟩ := h
  refine ⟨h1, h2, ?_, by simp; omega⟩
  have e := congrArg (List.take C.dropLast.length) h3
  rw [List.take_take, Nat.min_eq_left (by simp)] at e
  rw [e, List.length_dropLast, List.dropLast_eq_take, List.map_take]

theorem St.gone {w w' : World} {bs : Nat} {F : List Nat} {K : List (List ByteArray)} (h : St w bs F K) {gd : Nat} (hg : gd ∉ F) (hT : Touch (· = gd) w w') : St w' bs F K :=
  h.of_blocks (fun x hx => hT.block x (h.lt x hx) (fun e => hg (e ▸ hx)))
end Go.Proofs.Qxb6606313a
