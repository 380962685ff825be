/-
  The set in memory ('Rep') and '(*sortedKeys).find', walked. Not trusted: the kernel checks it.
-/
import Derived.Test.Qxb6606313aClone
namespace Go.Proofs.Qxb6606313a
open Go.RowKit Go.Deep
set_option linter.unusedVariables false

/-- one block in memory: its row's number, the row up to the capacity, the keys that it holds -/
structure Blk where
  g : Nat
  xs : List Value
  k : List ByteArray
def Blk.val (p : Blk) : Value := .slice (some ⟨p.g, 0, none⟩) p.k.length p.xs.length
def Blk.ok (w : World) (p : Blk) : Prop :=
  w.heap[p.g]? = some (.cells p.xs.toArray 9 (0, 0)) ∧ p.xs.take p.k.length = p.k.map Value.string ∧ p.k.length ≤ p.xs.length ∧ p.xs.length ≤ maxLen

theorem Blk.cell {w : World} {p : Blk} (h : p.ok w) (j : Nat) (s : ByteArray) (hs : p.k[j]? = some s) : w.cell? ⟨p.g, j, none⟩ = some (.string s) := by
  obtain ⟨h1, h2, h3, h4⟩ := h
  rw [cell_of_row w p.g j p.xs.toArray 9 (0, 0) h1, List.getElem?_toArray]
  have hj : j < p.k.length := (List.getElem?_eq_some_iff.1 hs).1
  have e : (p.xs.take p.k.length)[j]? = p.xs[j]? := List.getElem?_take_of_lt hj
  rw [← e, h2, List.getElem?_map, hs]; rfl

/-- the set in memory: the pointer's cell, the list of blocks, the blocks -/
structure Rep (w : World) (bs G : Nat) (ys : List Value) (L : List Blk) : Prop where
  ptr : w.heap[bs]? = some (.cells #[.slice (some ⟨G, 0, none⟩) L.length ys.length] 41 (0, 0))
  row : w.heap[G]? = some (.cells ys.toArray 22 (0, 0))
  ytake : ys.take L.length = L.map Blk.val
  yl : L.length ≤ ys.length
  ym : ys.length ≤ maxLen
  ok : ∀ p ∈ L, p.ok w
  nd : (bs :: G :: L.map Blk.g).Nodup

theorem Rep.cellPtr {w : World} {bs G : Nat} {ys : List Value} {L : List Blk} (h : Rep w bs G ys L) : w.cell? ⟨bs, 0, none⟩ = some (.slice (some ⟨G, 0, none⟩) L.length ys.length) := by
  rw [cell_of_row w bs 0 _ _ _ h.ptr]; rfl
theorem Rep.cellRow {w : World} {bs G : Nat} {ys : List Value} {L : List Blk} (h : Rep w bs G ys L) (t : Nat) (p : Blk) (hp : L[t]? = some p) : w.cell? ⟨G, t, none⟩ = some p.val := by
  rw [cell_of_row w G t ys.toArray 22 (0, 0) h.row, List.getElem?_toArray]
  have ht : t < L.length := (List.getElem?_eq_some_iff.1 hp).1
  have e : (ys.take L.length)[t]? = ys[t]? := List.getElem?_take_of_lt ht
  rw [← e, h.ytake, List.getElem?_map, hp]; rfl

/-- the keys, block by block -/
def keysOf (L : List Blk) : List (List ByteArray) := L.map Blk.k

theorem keys_get {L : List Blk} {t : Nat} {p : Blk} (h : L[t]? = some p) : (keysOf L)[t]? = some p.k := by
  unfold keysOf; rw [List.getElem?_map, h]; rfl
theorem keys_len (L : List Blk) : (keysOf L).length = L.length := by simp [keysOf]

/-! ### find -/
def FPost (b i : Nat) (f : Bool) (w : World) (e : Ending) (w' : World) : Prop := e = .returned (.tuple #[.int .i64 b, .int .i64 i, .bool f]) ∧ w' = w

set_option maxHeartbeats 1000000 in
/-- find: the key lies, or would lie, in block b -/
theorem find_in (bs G : Nat) (ys : List Value) (L : List Blk) (key : ByteArray) (w : World) (hR : Rep w bs G ys L) (hK : Inv (keysOf L)) (hL : L.length ≤ 1000000) (p : Blk) (hp : L[lowB (keysOf L) key]? = some p) :
    Calls Try.prog 24 #[.pointer (some ⟨bs, 0, none⟩), .string key] w (FPost (lowB (keysOf L) key) (low p.k key) (decide (low p.k key < p.k.length ∧ p.k.getD (low p.k key) ByteArray.empty = key)) w) := by
  have hpm : p ∈ L := List.mem_of_getElem? hp
  have hkm : p.k ∈ keysOf L := List.mem_map_of_mem hpm
  have hblt : lowB (keysOf L) key < L.length := (List.getElem?_eq_some_iff.1 hp).1
  have hc := hR.cellPtr
  have hcb := hR.cellRow _ p hp
  have BF := hide (bsf_any G L.length ys.length key (fun t => (L.getD t ⟨0, [], []⟩).g) (fun t => (L.getD t ⟨0, [], []⟩).k.length) (fun t => (L.getD t ⟨0, [], []⟩).xs.length) (fun t => lastOf (L.getD t ⟨0, [], []⟩).k) (lowB (keysOf L) key) w (by omega) (by omega)
    (fun t ht => by
      have e : L[t]? = some (L.getD t ⟨0, [], []⟩) := by simp [List.getD_eq_getElem?_getD, ht]
      exact hR.cellRow t _ e)
    (fun t ht => by
      have e : L[t]? = some (L.getD t ⟨0, [], []⟩) := by simp [List.getD_eq_getElem?_getD, ht]
      have hm := List.mem_of_getElem? e
      have h1 := hK.ne _ (List.mem_map_of_mem (f := Blk.k) hm)
      have h2 := (hR.ok _ hm)
      exact ⟨List.length_pos_iff.2 h1, Nat.le_trans h2.2.2.1 h2.2.2.2⟩)
    (fun t ht => by
      have e : L[t]? = some (L.getD t ⟨0, [], []⟩) := by simp [List.getD_eq_getElem?_getD, ht]
      have hm := List.mem_of_getElem? e
      exact Blk.cell (hR.ok _ hm) _ _ (lastOf_get (hK.ne _ (List.mem_map_of_mem (f := Blk.k) hm))))
    (fun t ht => by
      have e : L[t]? = some (L.getD t ⟨0, [], []⟩) := by simp [List.getD_eq_getElem?_getD, show t < L.length from by omega]
      exact (cmpv_lt _ _).2 (lowB_lt _ key t _ ht (keys_get e)))
    (fun t ht ht2 => by
      have e : L[t]? = some (L.getD t ⟨0, [], []⟩) := by simp [List.getD_eq_getElem?_getD, ht2]
      have h := lowB_ge hK key t _ ht (keys_get e)
      have h2 : ¬ cmpv (lastOf (L.getD t ⟨0, [], []⟩).k) key < 0 := fun hh => by rw [(cmpv_lt _ _).1 hh] at h; cases h
      omega))
  have hpl := hK.le _ hkm
  have BS := hide (bs_any p.g p.k.length p.xs.length key (fun t => p.k.getD t ByteArray.empty) (low p.k key) w (by omega) (low_le _ _)
    (fun t ht => Blk.cell (hR.ok p hpm) t _ (by simp [List.getD_eq_getElem?_getD, ht]))
    (fun t ht => low_lt p.k key t _ ht (by simp [List.getD_eq_getElem?_getD, show t < p.k.length from Nat.lt_of_lt_of_le ht (low_le _ _)]))
    (fun t ht ht2 => low_ge p.k key (hK.inner hkm) t _ ht (by simp [List.getD_eq_getElem?_getD, ht2])))
  obtain ⟨b, hb⟩ : ∃ b, lowB (keysOf L) key = b := ⟨_, rfl⟩
  obtain ⟨i, hi⟩ : ∃ i, low p.k key = i := ⟨_, rfl⟩
  obtain ⟨f, hf⟩ : ∃ f, decide (low p.k key < p.k.length ∧ p.k.getD (low p.k key) ByteArray.empty = key) = f := ⟨_, rfl⟩
  rw [hf] at BS ⊢
  rw [hb] at BF hcb hblt ⊢
  rw [hi] at BS ⊢
  have hne : ((b : Int) == (L.length : Int)) = false := by simp; omega
  have hym := hR.ym
  have hyl := hR.yl
  unfold maxLen at hym
  unfold Blk.val at hcb
  clear hb hi hf hp hpm hkm hR hK
  go_enter Try.func24, Try.ntmps24
  go_wp2_with (first | (go_at_call 29; refine (BF.out).mono ?_; rintro e w ⟨f', rfl, rfl⟩) | (go_at_call 32; refine (BS.out).mono ?_; rintro e w ⟨rfl, rfl⟩))
  go_ret3
  exact ⟨rfl, rfl⟩

set_option maxHeartbeats 1000000 in
/-- find: the key lies behind every key -/
theorem find_out (bs G : Nat) (ys : List Value) (L : List Blk) (key : ByteArray) (w : World) (hR : Rep w bs G ys L) (hK : Inv (keysOf L)) (hL : L.length ≤ 1000000) (hp : lowB (keysOf L) key = L.length) :
    Calls Try.prog 24 #[.pointer (some ⟨bs, 0, none⟩), .string key] w (FPost L.length 0 false w) := by
  have hc := hR.cellPtr
  have BF := hide (bsf_any G L.length ys.length key (fun t => (L.getD t ⟨0, [], []⟩).g) (fun t => (L.getD t ⟨0, [], []⟩).k.length) (fun t => (L.getD t ⟨0, [], []⟩).xs.length) (fun t => lastOf (L.getD t ⟨0, [], []⟩).k) L.length w (by omega) (by omega)
    (fun t ht => by
      have e : L[t]? = some (L.getD t ⟨0, [], []⟩) := by simp [List.getD_eq_getElem?_getD, ht]
      exact hR.cellRow t _ e)
    (fun t ht => by
      have e : L[t]? = some (L.getD t ⟨0, [], []⟩) := by simp [List.getD_eq_getElem?_getD, ht]
      have hm := List.mem_of_getElem? e
      have h1 := hK.ne _ (List.mem_map_of_mem (f := Blk.k) hm)
      have h2 := (hR.ok _ hm)
      exact ⟨List.length_pos_iff.2 h1, Nat.le_trans h2.2.2.1 h2.2.2.2⟩)
    (fun t ht => by
      have e : L[t]? = some (L.getD t ⟨0, [], []⟩) := by simp [List.getD_eq_getElem?_getD, ht]
      have hm := List.mem_of_getElem? e
      exact Blk.cell (hR.ok _ hm) _ _ (lastOf_get (hK.ne _ (List.mem_map_of_mem (f := Blk.k) hm))))
    (fun t ht => by
      have e : L[t]? = some (L.getD t ⟨0, [], []⟩) := by simp [List.getD_eq_getElem?_getD, ht]
      exact (cmpv_lt _ _).2 (lowB_lt _ key t _ (by omega) (keys_get e)))
    (fun t ht ht2 => by omega))
  have hym := hR.ym
  have hyl := hR.yl
  unfold maxLen at hym
  clear hR hK hp
  go_enter Try.func24, Try.ntmps24
  go_wp2_with (go_at_call 29; refine (BF.out).mono ?_; rintro e w ⟨f', rfl, rfl⟩)
  go_ret3
  exact ⟨rfl, rfl⟩

set_option maxHeartbeats 1000000 in
/-- find: in the empty set -/
theorem find_none (bs : Nat) (a : Option Addr) (c : Nat) (key : ByteArray) (w : World) (hR : w.heap[bs]? = some (.cells #[.slice a 0 c] 41 (0, 0))) :
    Calls Try.prog 24 #[.pointer (some ⟨bs, 0, none⟩), .string key] w (FPost 0 0 false w) := by
  have hc : w.cell? ⟨bs, 0, none⟩ = some (.slice a 0 c) := by rw [cell_of_row w bs 0 _ _ _ hR]; rfl
  have BF := hide (bsf_none a c key w)
  clear hR
  go_enter Try.func24, Try.ntmps24
  go_wp2_with (go_at_call 29; refine (BF.out).mono ?_; rintro e w ⟨f', rfl, rfl⟩)
  go_ret3
  exact ⟨rfl, rfl⟩
end Go.Proofs.Qxb6606313a
