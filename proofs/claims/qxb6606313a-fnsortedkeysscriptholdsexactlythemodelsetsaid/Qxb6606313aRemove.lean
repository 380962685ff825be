/-
  (*sortedKeys).remove of a key that is held, walked: every road. Not trusted: the kernel checks it.
-/
import Derived.Test.Qxb6606313aRemPlain
namespace Go.Proofs.Qxb6606313a
open Go.RowKit Go.Deep
set_option linter.unusedVariables false

def RPost (w : World) (bs : Nat) (F : List Nat) (K : List (List ByteArray)) (key : ByteArray) (e : Ending) (w' : World) : Prop :=
  e = .returned (.tuple #[]) ∧ ∃ F' K', St w' bs F' K' ∧ RPl K K' key ∧ Touch (· ∈ F) w w' ∧ ∀ x ∈ F', x ∈ F ∨ w.heap.size ≤ x

theorem RW.post {w : World} {F : List Nat} {bs G : Nat} {ys : List Value} {L : List Blk} {w1 : World} (h : RW w F bs G ys L w1) {K : List (List ByteArray)} {key : ByteArray} (hp : RPl K (keysOf L) key) : RPost w bs F K key (.returned (.tuple #[])) w1 := by
  obtain ⟨F', h1, h2⟩ := h.st
  exact ⟨rfl, F', _, h1, hp, h.to, h2⟩

/-- the block behind slices.Delete -/
theorem del_blk {w w1 : World} {p : Blk} (hp : p.ok w) {i : Nat} (hi : i < p.k.length) {xs' : List Value} (hd : DelAfter 9 w p.g p.k.length p.xs i xs' w1) : (Blk.mk p.g xs' (p.k.eraseIdx i)).ok w1 := by
  obtain ⟨h1, h2, h3, h4⟩ := hd
  have hl : (p.k.eraseIdx i).length = p.k.length - 1 := List.length_eraseIdx_of_lt hi
  refine ⟨h1, ?_, ?_, ?_⟩
  · show xs'.take (p.k.eraseIdx i).length = _
    rw [hl, h2, hp.2.1, map_erase]
  · show (p.k.eraseIdx i).length ≤ xs'.length
    rw [hl, h3]; have := hp.2.2.1; omega
  · show xs'.length ≤ maxLen
    rw [h3]; exact hp.2.2.2

/-- the last step: the block cloned and laid in its place -/
def CDPost (w : World) (F : List Nat) (bs G nL c b NN : Nat) (K : List (List ByteArray)) (key : ByteArray) (e : Ending) (w5 : World) : Prop :=
  ∃ g2 c2 : Nat, e = .returned (.slice (some ⟨g2, 0, none⟩) NN c2) ∧ w5.cell? ⟨bs, 0, none⟩ = some (.slice (some ⟨G, 0, none⟩) nL c) ∧ (∃ v, w5.cell? ⟨G, b, none⟩ = some v) ∧ w5.frozen? ⟨G, b, none⟩ = false ∧
    RPost w bs F K key (.returned (.tuple #[])) (w5.setCell ⟨G, b, none⟩ (.slice (some ⟨g2, 0, none⟩) NN c2))

theorem keys_set_same {L : List Blk} {b : Nat} {m q : Blk} (hm : L[b]? = some m) (hk : q.k = m.k) : keysOf (L.set b q) = keysOf L := by
  rw [keys_set, hk]
  apply List.ext_getElem?
  intro t
  rw [List.getElem?_set]
  split
  · rename_i e; subst e
    rw [keys_get hm, if_pos (by rw [keys_len]; exact (List.getElem?_eq_some_iff.1 hm).1)]
  · rfl

theorem clone_call {w : World} {F : List Nat} {bs G : Nat} {ys : List Value} {L : List Blk} {w1 : World} (h : RW w F bs G ys L w1) {b : Nat} {m : Blk} (hm : L[b]? = some m) {K : List (List ByteArray)} {key : ByteArray} (hp : RPl K (keysOf L) key)
    (NN nL : Nat) (hNN : m.k.length = NN) (hnL : L.length = nL) (hle : NN ≤ 1000) : Calls Try.prog 26 #[.slice (some ⟨m.g, 0, none⟩) NN m.xs.length] w1.drew (CDPost w F bs G nL ys.length b NN K key) := by
  subst hNN hnL
  have hmm := List.mem_of_getElem? hm
  have hmo := h.rep.ok m hmm
  refine (cl26 (some ⟨m.g, 0, none⟩) m.k.length m.xs.length (m.k.map Value.string) w1.drew (by simp) (by omega) (by simp) (fun _ => ⟨⟨m.g, 0, none⟩, rfl, Blk.lt hmo, fun j u hu => by
    rw [Addr.add_lit, Nat.zero_add]
    rw [List.getElem?_map, Option.map_eq_some_iff] at hu
    obtain ⟨s, hs, rfl⟩ := hu
    exact Blk.cell hmo j s hs⟩) (strs_one _)).mono ?_
  rintro e w5 ⟨g2, xs2, rfl, l1, l2, l3, l4, l5, l6⟩
  rw [List.length_map] at l2 l3 ⊢
  have hbs := h.rep.bslt
  have hG := h.rep.Glt
  have r1 : w5.heap[bs]? = some (.cells #[.slice (some ⟨G, 0, none⟩) L.length ys.length] 41 (0, 0)) := (l5.block bs hbs).trans h.rep.ptr
  have r2 : w5.heap[G]? = some (.cells ys.toArray 22 (0, 0)) := (l5.block G hG).trans h.rep.row
  have l6' : w1.heap.size ≤ g2 := l6
  have hq : (Blk.mk g2 xs2 m.k).ok w5 := ⟨l1, l2, l3, l4⟩
  have hP := h.put (q := Blk.mk g2 xs2 m.k) (w2 := w5.setCell ⟨G, b, none⟩ (.slice (some ⟨g2, 0, none⟩) m.k.length xs2.length)) hm (set_row b _ r2)
    ((show Touch (fun k => k = G ∨ k = m.g) w1 w5 from ⟨l5.os, l5.tape, l5.output, l5.size, fun k hk _ => l5.block k hk⟩).setCell (fun _ => .inl rfl) _)
    (Blk.ok_of hq (Below.heap_setCell _ _ _ _ (fun e => by simp at e; omega))) (.inr l6')
  refine ⟨g2, xs2.length, rfl, by rw [cell_of_row w5 bs 0 _ _ _ r1]; rfl, ⟨m.val, ?_⟩, by simp [World.frozen?, r2], hP.post (by rw [keys_set_same (q := Blk.mk g2 xs2 m.k) hm rfl]; exact hp)⟩
  have := h.rep.cellRow b m hm
  rw [cell_of_row w1 G b _ _ _ h.rep.row] at this
  rw [cell_of_row w5 G b _ _ _ r2]; exact this

/-- behind the append of a merge -/
theorem merge_done {w : World} {F : List Nat} {bs G : Nat} {ys : List Value} {L : List Blk} {w1 : World} (h : RW w F bs G ys L w1) {b : Nat} {q : Blk} (hq : L[b]? = some q) {rk : List ByteArray} {g' : Nat} {xs' : List Value} {w3 : World}
    (h1 : w3.heap[g']? = some (.cells xs'.toArray 9 (0, 0))) (h2 : xs'.take (q.k.length + rk.length) = q.xs.take q.k.length ++ rk.map Value.string) (h3 : q.k.length + rk.length ≤ xs'.length) (h4 : xs'.length ≤ maxLen)
    (h5 : Touch (· = q.g) w1.drew w3) (h6 : g' = q.g ∨ g' = w1.drew.heap.size) :
    w3.heap[bs]? = w1.heap[bs]? ∧ w3.heap[G]? = w1.heap[G]? ∧ RW w F bs G (ys.set b (Blk.mk g' xs' (q.k ++ rk)).val) (L.set b (Blk.mk g' xs' (q.k ++ rk))) (w3.setCell ⟨G, b, none⟩ (.slice (some ⟨g', 0, none⟩) (q.k.length + rk.length) xs'.length)) := by
  have hqm := List.mem_of_getElem? hq
  have hbs := h.rep.bslt
  have hG := h.rep.Glt
  have a1 : w3.heap[bs]? = w1.heap[bs]? := h5.block bs hbs (h.rep.bsp hqm)
  have a2 : w3.heap[G]? = w1.heap[G]? := h5.block G hG (h.rep.Gp hqm)
  have h6' : g' = q.g ∨ g' = w1.heap.size := h6
  refine ⟨a1, a2, ?_⟩
  have hqo : (Blk.mk g' xs' (q.k ++ rk)).ok w3 := by
    refine ⟨h1, ?_, ?_, h4⟩
    · show xs'.take (q.k ++ rk).length = _
      rw [List.length_append, h2, (h.rep.ok q hqm).2.1, List.map_append]
    · show (q.k ++ rk).length ≤ xs'.length
      rw [List.length_append]; exact h3
  refine h.put hq ?_ ((h5.ofDrew.mono (fun k _ e => .inr e)).setCell (fun _ => .inl rfl) _) (Blk.ok_of hqo (Below.heap_setCell _ _ _ _ (fun e => ?_))) ?_
  · unfold Blk.val
    simp only [List.length_append]
    exact set_row b _ (a2.trans h.rep.row)
  · simp at e
    rcases h6' with e2 | e2
    · exact h.rep.Gp hqm (by rw [← e, e2])
    · omega
  · rcases h6' with e | e
    · exact .inl e
    · exact .inr (Nat.le_of_eq e.symm)

theorem merge_facts {w : World} {F : List Nat} {bs G : Nat} {ys : List Value} {L : List Blk} {w1 : World} (h : RW w F bs G ys L w1) {b : Nat} {q : Blk} (hq : L[b]? = some q) {n : Nat} (hn : q.k.length = n) {rk : List ByteArray} {g' : Nat} {xs' : List Value} {w3 : World}
    (H : Hid (w3.heap[g']? = some (.cells xs'.toArray 9 (0, 0)) ∧ xs'.take (n + rk.length) = q.xs.take n ++ rk.map Value.string ∧ n + rk.length ≤ xs'.length ∧ xs'.length ≤ maxLen ∧ Touch (· = q.g) w1.drew w3 ∧ (g' = q.g ∨ g' = w1.drew.heap.size))) :
    ∃ w4, w3.setCell ⟨G, b, none⟩ (.slice (some ⟨g', 0, none⟩) (n + rk.length) xs'.length) = w4 ∧ w3.cell? ⟨bs, 0, none⟩ = w1.cell? ⟨bs, 0, none⟩ ∧ (∀ t, w3.cell? ⟨G, t, none⟩ = w1.cell? ⟨G, t, none⟩) ∧ (∀ t, w3.frozen? ⟨G, t, none⟩ = false) ∧
      Hid (RW w F bs G (ys.set b (Blk.mk g' xs' (q.k ++ rk)).val) (L.set b (Blk.mk g' xs' (q.k ++ rk))) w4) := by
  subst hn
  obtain ⟨h1, h2, h3, h4, h5, h6⟩ := H.out
  obtain ⟨v1, v2, v3⟩ := merge_done (rk := rk) h hq h1 h2 h3 h4 h5 h6
  exact ⟨_, rfl, World.cell?_of_block v1, fun t => World.cell?_of_block v2, fun t => by simp [World.frozen?, v2, h.rep.row], v3⟩

set_option maxHeartbeats 20000000 in
set_option maxRecDepth 100000 in
theorem rem_in (bs G : Nat) (ys : List Value) (L : List Blk) (key : ByteArray) (w : World) (hR : Rep w bs G ys L) (hK : Inv (keysOf L)) (hL : L.length ≤ 100000) (p : Blk) (hp : L[lowB (keysOf L) key]? = some p) (hf : low p.k key < p.k.length ∧ p.k.getD (low p.k key) ByteArray.empty = key) :
    Calls Try.prog 28 #[.pointer (some ⟨bs, 0, none⟩), .string key] w (RPost w bs (bs :: G :: L.map Blk.g) (keysOf L) key) := by
  have Fi := hide (find_in bs G ys L key w hR hK (by omega) p hp)
  rw [decide_eq_true hf] at Fi
  have hpm : p ∈ L := List.mem_of_getElem? hp
  have hpo := hR.ok p hpm
  have hpl := hK.le _ (List.mem_map_of_mem (f := Blk.k) hpm)
  have hblt : lowB (keysOf L) key < L.length := (List.getElem?_eq_some_iff.1 hp).1
  have hgi : p.k[low p.k key]? = some key := by
    have := hf.2
    rw [List.getD_eq_getElem?_getD] at this
    have h1 := hf.1
    rw [List.getElem?_eq_getElem h1] at this ⊢
    exact congrArg some this
  have DE := hide (del37 p.g p.k.length p.xs.length (low p.k key) p.xs w hpo.1 hpo.2.2.1 rfl hpo.2.2.2 hf.1 (by omega) (by rw [hpo.2.1]; exact strs_one _))
  have hc := hR.cellPtr
  have hcb := hR.cellRow _ p hp
  unfold Blk.val at hcb
  have hil := hf.1
  obtain ⟨b, hb⟩ : ∃ b, lowB (keysOf L) key = b := ⟨_, rfl⟩
  obtain ⟨i, hi⟩ : ∃ i, low p.k key = i := ⟨_, rfl⟩
  rw [hb] at Fi hp hcb hblt
  rw [hi] at Fi DE hgi hil
  have hyl := hR.yl
  have hym := hR.ym
  unfold maxLen at hym
  have HW := hide (RW.start hR)
  obtain ⟨F, hF⟩ : ∃ F, bs :: G :: L.map Blk.g = F := ⟨_, rfl⟩
  rw [hF] at HW ⊢
  have HR := hide hR
  have HK := hide hK
  have HP := hide hp
  have HO := hide hpo
  have HI := hide hgi
  obtain ⟨n, hn⟩ : ∃ n, p.k.length = n + 1 := ⟨p.k.length - 1, by omega⟩
  have HN := hide hn
  rw [hn] at hcb DE hpl hil
  clear hF hR hK hp hpo hgi hf hb hi hpm hn
  go_enter Try.func28, Try.ntmps28
  go_wp2_with fail
  refine (Fi.out).mono ?_
  rintro e w ⟨rfl, rfl⟩
  go_wp2_with fail
  refine (DE.out).mono ?_
  rintro e w1 ⟨xs', rfl, hd⟩
  simp only [Nat.add_sub_cancel]
  have hq : (Blk.mk p.g xs' (p.k.eraseIdx i)).ok w1 := del_blk HO.out (by rw [HN.out]; exact hil) (by rw [HN.out]; exact hd)
  have hql : (p.k.eraseIdx i).length = n := by rw [List.length_eraseIdx_of_lt (by rw [HN.out]; exact hil), HN.out]; rfl
  have hpm : p ∈ L := List.mem_of_getElem? HP.out
  have r1 : w1.heap[bs]? = some (.cells #[.slice (some ⟨G, 0, none⟩) L.length ys.length] 41 (0, 0)) := (hd.2.2.2.block bs HR.out.bslt (HR.out.bsp hpm)).trans HR.out.ptr
  have r2 : w1.heap[G]? = some (.cells ys.toArray 22 (0, 0)) := (hd.2.2.2.block G HR.out.Glt (HR.out.Gp hpm)).trans HR.out.row
  have c1 : w1.cell? ⟨bs, 0, none⟩ = some (.slice (some ⟨G, 0, none⟩) L.length ys.length) := by rw [cell_of_row w1 bs 0 _ _ _ r1]; rfl
  have c2 : w1.cell? ⟨G, b, none⟩ = some (.slice (some ⟨p.g, 0, none⟩) (n + 1) p.xs.length) := (World.cell?_of_block (w := w) (hd.2.2.2.block G HR.out.Glt (HR.out.Gp hpm))).trans hcb
  have c3 : w1.frozen? ⟨G, b, none⟩ = false := by simp [World.frozen?, r2]
  have hW2 : RW w F bs G (ys.set b (Blk.mk p.g xs' (p.k.eraseIdx i)).val) (L.set b (Blk.mk p.g xs' (p.k.eraseIdx i))) (w1.setCell ⟨G, b, none⟩ (.slice (some ⟨p.g, 0, none⟩) n xs'.length)) := by
    refine HW.out.put HP.out ?_ ((hd.2.2.2.mono (fun k _ e => .inr e)).setCell (fun _ => .inl rfl) _) (Blk.ok_of hq (Below.heap_setCell _ _ _ _ (fun e => HR.out.Gp hpm e.symm))) (.inl rfl)
    unfold Blk.val
    simp only [hql]
    exact set_row b _ r2
  obtain ⟨q, hqq⟩ : ∃ q, Blk.mk p.g xs' (p.k.eraseIdx i) = q := ⟨_, rfl⟩
  have hqg : q.g = p.g := by rw [← hqq]
  have hqx : q.xs = xs' := by rw [← hqq]
  have hqk : q.k = p.k.eraseIdx i := by rw [← hqq]
  rw [hqq] at hW2 hq
  have hqm := hq.2.2.2
  have hqn := hq.2.2.1
  rw [hqk, hql] at hqn
  rw [← hqx, ← hqg] at hW2 ⊢
  obtain ⟨w2, hw2⟩ : ∃ w2, w1.setCell ⟨G, b, none⟩ (.slice (some ⟨q.g, 0, none⟩) n q.xs.length) = w2 := ⟨_, rfl⟩
  rw [hw2] at hW2
  have HW2 := hide hW2
  have HQL := hide hql
  have HQK := hide hqk
  have HQG := hide hqg
  unfold maxLen at hqm
  clear hqq hqg hqx hqk hd hq hql r1 r2 Fi DE hc hcb HW hW2
  have hpt : w2.heap[bs]? = some (.cells #[.slice (some ⟨G, 0, none⟩) L.length ys.length] 41 (0, 0)) := by
    have := HW2.out.rep.ptr
    rw [List.length_set, List.length_set] at this; exact this
  have k1 : w2.cell? ⟨bs, 0, none⟩ = some (.slice (some ⟨G, 0, none⟩) L.length ys.length) := by rw [cell_of_row w2 bs 0 _ _ _ hpt]; rfl
  have k2 : w2.cell? ⟨G, b, none⟩ = some (.slice (some ⟨q.g, 0, none⟩) n q.xs.length) := by
    have := HW2.out.rep.cellRow b q (by simp [hblt])
    unfold Blk.val at this
    rw [HQK.out, HQL.out] at this; exact this
  have k3 : w2.frozen? ⟨G, b, none⟩ = false := by simp [World.frozen?, HW2.out.rep.row]
  have HPT := hide hpt
  clear hpt
  have hKb : (keysOf L)[b]? = some p.k := keys_get HP.out
  have HKB := hide hKb
  clear hKb
  have hLs : (L.set b q).length = L.length := List.length_set
  have HLs := hide hLs
  have HQ : Hid ((L.set b q)[b]? = some q) := by simp [Hid, hblt]
  clear hLs
  by_cases hn0 : n = 0
  · subst hn0
    have DB := hide (db38 bs G _ (L.set b q) b w2 HW2.out.rep (by rw [HLs.out]; exact hblt) (by rw [HLs.out]; exact hL))
    have HPL : Hid (RPl (keysOf L) (keysOf ((L.set b q).eraseIdx b)) key) := by
      unfold Hid
      rw [keys_erase, keys_set, HQK.out]
      exact rpl_gone HK.out HKB.out HI.out HQL.out
    clear k1 k2 k3
    go_wp2_with fail
    refine (DB.out).mono ?_
    rintro e w3 ⟨rfl, t1, G', ys', t2, t3⟩
    have HW3 := hide (HW2.out.del (List.eraseIdx_sublist ..) t1 t2 t3)
    clear t1 t2 t3 c1 c2 c3 hw2
    go_wp2
    go_end0
    exact HW3.out.post HPL.out
  have d0 : ((n : Int) == 0) = false := by simp; omega
  by_cases hbig : 128 < n
  · have d1 : decide ((128 : Int) < (n : Int)) = true := by simp; omega
    have HPL : Hid (RPl (keysOf L) (keysOf (L.set b q)) key) := by
      unfold Hid
      rw [keys_set, HQK.out]
      exact rpl_stay HK.out HKB.out HI.out (by rw [HQL.out]; exact hn0)
    have CL0 := clone_call HW2.out HQ.out HPL.out n L.length (by rw [HQK.out, HQL.out]) HLs.out (by omega)
    rw [List.length_set] at CL0
    have CL := hide CL0
    clear CL0
    by_cases hq4 : (n : Int) ≤ (q.xs.length : Int) / 4
    · go_wp2
      go_region_with (go_at_call 26; refine (CL.out).mono ?_; rintro e w5 ⟨g2, c2, rfl, y1, ⟨y2, y3⟩, y4, y5⟩; have Y5 := hide y5; clear y5)
      all_goals go_end0
      all_goals exact Y5.out
    · have hqb : decide ((n : Int) ≤ (q.xs.length : Int) / 4) = false := by simp; omega
      go_wp2
      go_end0
      exact HW2.out.post HPL.out
  have d1 : decide ((128 : Int) < (n : Int)) = false := by simp; omega
  by_cases hnx : ∃ r, L[b + 1]? = some r ∧ n + r.k.length ≤ 512
  · obtain ⟨r, hr, hrs⟩ := hnx
    have hb1 : b + 1 < L.length := (List.getElem?_eq_some_iff.1 hr).1
    have d2 : decide ((b : Int) + 1 < (L.length : Int)) = true := by simp; omega
    have d3 : decide ((n : Int) + (r.k.length : Int) ≤ 512) = true := by simp; omega
    have hr5 := HK.out.le r.k (List.mem_map_of_mem (f := Blk.k) (List.mem_of_getElem? hr))
    have hr2 : (L.set b q)[b + 1]? = some r := by rw [List.getElem?_set_ne (by omega)]; exact hr
    have hrm := HW2.out.rep.ok r (List.mem_of_getElem? hr2)
    have k4 := HW2.out.rep.cellRow (b + 1) r hr2
    unfold Blk.val at k4
    have e1 : ((b : Int) + 1).toNat = b + 1 := by omega
    have e2 : (0 : Int) ≤ (b : Int) + 1 := by omega
    have e3 : (b : Int) + 1 < (L.length : Int) := by omega
    have e4 : IntKind.i64.wrap ((b : Int) + 1) = (b : Int) + 1 := by rw [IntKind.wrap_i64]; omega
    have hrl := hrm.2.2.1
    have hrx := hrm.2.2.2
    unfold maxLen at hrx
    have HR2 := hide hr
    have HRO := hide hrm
    have hqo := HW2.out.rep.ok q (List.mem_of_getElem? HQ.out)
    have HQO := hide hqo
    have HKr : Hid ((keysOf L)[b + 1]? = some r.k) := keys_get hr
    have HQN : Hid (q.k.length = n) := by unfold Hid; rw [HQK.out, HQL.out]
    have hsrc : Hid (0 < r.k.length → ∃ ad, some (⟨r.g, 0, none⟩ : Addr) = some ad ∧ ∀ j u, (r.k.map Value.string)[j]? = some u → w2.drew.cell? (ad.add j) = some u) := by
      intro _
      refine ⟨_, rfl, fun j u hu => ?_⟩
      rw [Addr.add_lit, Nat.zero_add]
      rw [List.getElem?_map, Option.map_eq_some_iff] at hu
      obtain ⟨s, hs, rfl⟩ := hu
      exact Blk.cell HRO.out j s hs
    clear hr hr2 hrm hqo
    go_wp2
    go_region_law (refine step_app rfl (.tmp 76) (.tmp 84) 22 rfl 9 (.string ByteArray.empty) 16 Try.underlying22 Try.info9 rfl q.g n q.xs.length q.xs rfl HQO.out.1 hqn rfl (by unfold maxLen; omega) (some ⟨r.g, 0, none⟩) r.k.length r.xs.length (r.k.map Value.string) rfl (by simp) hsrc.out (strs_one _) (by unfold maxLen; omega) (by omega) ?_; intro g3 xs3 w3 H3; obtain ⟨w4, hw4, v1, v2, v3, V3⟩ := merge_facts HW2.out HQ.out HQN.out H3; have z1 := v1.trans k1; have z2 := (v2 b).trans k2; have z3 := (v2 (b + 1)).trans k4; have z4 := v3 b; clear v1 v2 v3)
    all_goals
      obtain ⟨m, hm⟩ : ∃ m, Blk.mk g3 xs3 (q.k ++ r.k) = m := ⟨_, rfl⟩
      have hmk : m.k = q.k ++ r.k := by rw [← hm]
      have hmx : m.xs = xs3 := by rw [← hm]
      have hmg : m.g = g3 := by rw [← hm]
      rw [hm] at V3
      have HMK := hide hmk
      have HX3 : Hid (xs3.length ≤ maxLen) := H3.out.2.2.2.1
      have hl3 : ((L.set b q).set b m).length = L.length := by simp
      have HL3 := hide hl3
      have DB := hide (db38 bs G _ ((L.set b q).set b m) (b + 1) w4 V3.out.rep (by rw [HL3.out]; exact hb1) (by rw [HL3.out]; exact hL))
      rw [show (((b + 1 : Nat)) : Int) = (b : Int) + 1 from rfl] at DB
      have HPL : Hid (RPl (keysOf L) (keysOf (((L.set b q).set b m).eraseIdx (b + 1))) key) := by
        unfold Hid
        rw [keys_erase, keys_set, keys_set, HMK.out, HQK.out]
        exact rpl_next HK.out HKB.out HKr.out HI.out (by rw [HQL.out]; exact hrs)
      have HM : Hid ((((L.set b q).set b m).eraseIdx (b + 1))[b]? = some m) := by
        unfold Hid
        rw [List.getElem?_eraseIdx_of_lt (by omega), List.getElem?_set_self (by rw [HLs.out]; exact hblt)]
      have hlen : (((L.set b q).set b m).eraseIdx (b + 1)).length = L.length - 1 := by
        rw [List.length_eraseIdx_of_lt (by rw [HL3.out]; exact hb1), HL3.out]
      have HLen := hide hlen
      have HMN : Hid (m.k.length = n + r.k.length) := by unfold Hid; rw [HMK.out, List.length_append, HQN.out]
      clear hl3 hlen hmk H3 hm z1 z2 z3 z4 k1 k2 k3 k4
      subst hmx hmg
      go_wp2_with fail
      refine (DB.out).mono ?_
      rintro e w5 ⟨rfl, t1, G', ys', t2, t3⟩
      have HW5 := hide (V3.out.del (List.eraseIdx_sublist ..) t1 t2 t3)
      obtain ⟨l', hl'⟩ : ∃ l', L.length = l' + 1 := ⟨L.length - 1, by omega⟩
      have HL' : Hid (((((L.set b q).set b m).eraseIdx (b + 1))).length = l') := by unfold Hid; rw [HLen.out]; omega
      have CL := hide (clone_call HW5.out HM.out HPL.out (n + r.k.length) l' HMN.out HL'.out (by omega))
      have x1 := HW5.out.rep.cellPtr
      rw [HL'.out] at x1
      have x2 := HW5.out.rep.cellRow b m HM.out
      unfold Blk.val at x2
      rw [HMN.out] at x2
      have x3 : w5.frozen? ⟨G', b, none⟩ = false := by simp [World.frozen?, HW5.out.rep.row]
      have x4 : (b : Int) < (l' : Int) := by omega
      have x5 : m.xs.length ≤ 2 ^ 63 - 1 := HX3.out
      have x6 := HW5.out.rep.ym
      unfold maxLen at x6
      clear t1 t2 t3 DB c1 c2 c3 hw2 hw4
      by_cases hq4 : (n : Int) + (r.k.length : Int) ≤ (m.xs.length : Int) / 4
      · go_wp2
        go_region_with (go_at_call 26; refine (CL.out).mono ?_; rintro e w6 ⟨g2, c2, rfl, y1, ⟨y2, y3⟩, y4, y5⟩; have Y5 := hide y5; clear y5)
        all_goals go_end0
        all_goals exact Y5.out
      · have hqb : decide ((n : Int) + (r.k.length : Int) ≤ (m.xs.length : Int) / 4) = false := by simp; omega
        go_wp2
        go_end0
        exact HW5.out.post HPL.out
  by_cases hb0 : b = 0
  · subst hb0
    have HPL : Hid (RPl (keysOf L) (keysOf (L.set 0 q)) key) := by
      unfold Hid
      rw [keys_set, HQK.out]
      exact rpl_stay HK.out HKB.out HI.out (by rw [HQL.out]; exact hn0)
    have CL0 := clone_call HW2.out HQ.out HPL.out n L.length (by rw [HQK.out, HQL.out]) HLs.out (by omega)
    rw [List.length_set] at CL0
    have CL := hide CL0
    clear CL0
    by_cases hb1 : 1 < L.length
    case' pos =>
      have hr : L[1]? = some L[1] := by simp
      obtain ⟨r, hrr⟩ : ∃ r, L[1] = r := ⟨_, rfl⟩
      rw [hrr] at hr
      have hrs : ¬ n + r.k.length ≤ 512 := fun e => hnx ⟨r, hr, e⟩
      have d2 : decide ((1 : Int) < (L.length : Int)) = true := by simp; omega
      have d3 : decide ((n : Int) + (r.k.length : Int) ≤ 512) = false := by simp; omega
      have hr5 := HK.out.le r.k (List.mem_map_of_mem (f := Blk.k) (List.mem_of_getElem? hr))
      have hr2 : (L.set 0 q)[1]? = some r := by rw [List.getElem?_set_ne (by omega)]; exact hr
      have hrm := HW2.out.rep.ok r (List.mem_of_getElem? hr2)
      have k4 := HW2.out.rep.cellRow (1) r hr2
      unfold Blk.val at k4
      have e3 : (1 : Int) < (L.length : Int) := by omega
      have hrl := hrm.2.2.1
      have hrx := hrm.2.2.2
      unfold maxLen at hrx
      clear hr hrr hr2 hrm hnx
    case' neg =>
      have d2 : decide ((1 : Int) < (L.length : Int)) = false := by simp; omega
      clear hnx
    all_goals
      by_cases hq4 : (n : Int) ≤ (q.xs.length : Int) / 4
      · go_wp2
        go_region_with (go_at_call 26; refine (CL.out).mono ?_; rintro e w6 ⟨g2, c2, rfl, y1, ⟨y2, y3⟩, y4, y5⟩; have Y5 := hide y5; clear y5)
        all_goals go_end0
        all_goals exact Y5.out
      · have hqb : decide ((n : Int) ≤ (q.xs.length : Int) / 4) = false := by simp; omega
        go_wp2
        go_end0
        exact HW2.out.post HPL.out
  obtain ⟨c, hc⟩ : ∃ c, b = c + 1 := ⟨b - 1, by omega⟩
  have HC := hide hc
  have hcb1 : c + 1 ≤ b := by omega
  have hcb2 : b ≤ c + 1 := by omega
  have hcb : c < b := by omega
  have e5 : (b : Int) - 1 = (c : Int) := by omega
  have hcl : c < L.length := by omega
  have hv : L[c]? = some L[c] := by simp
  obtain ⟨v, hvv⟩ : ∃ v, L[c] = v := ⟨_, rfl⟩
  rw [hvv] at hv
  have hv2 : (L.set b q)[c]? = some v := by rw [List.getElem?_set_ne (by omega)]; exact hv
  have hvm := HW2.out.rep.ok v (List.mem_of_getElem? hv2)
  have k5 := HW2.out.rep.cellRow c v hv2
  unfold Blk.val at k5
  have k6 : w2.frozen? ⟨G, c, none⟩ = false := by simp [World.frozen?, HW2.out.rep.row]
  have hvl := hvm.2.2.1
  have hvx := hvm.2.2.2
  unfold maxLen at hvx
  have hv5 := HK.out.le v.k (List.mem_map_of_mem (f := Blk.k) (List.mem_of_getElem? hv))
  have d5 : decide ((0 : Int) < (b : Int)) = true := by simp; omega
  have i1 : (c : Int) < (L.length : Int) := by omega
  have HV := hide hv2
  have HVO := hide hvm
  have HKv : Hid ((keysOf L)[c]? = some v.k) := keys_get hv
  clear hv hvv hv2 hvm hc hb0
  by_cases hpv : v.k.length + n ≤ 512
  case' neg =>
    have d6 : decide ((v.k.length : Int) + (n : Int) ≤ 512) = false := by simp; omega
    have HPL : Hid (RPl (keysOf L) (keysOf (L.set b q)) key) := by
      unfold Hid
      rw [keys_set, HQK.out]
      exact rpl_stay HK.out HKB.out HI.out (by rw [HQL.out]; exact hn0)
    have CL0 := clone_call HW2.out HQ.out HPL.out n L.length (by rw [HQK.out, HQL.out]) HLs.out (by omega)
    rw [List.length_set] at CL0
    have CL := hide CL0
    clear CL0
    by_cases hb1 : b + 1 < L.length
    case' pos =>
      have hr : L[b + 1]? = some L[b + 1] := by simp
      obtain ⟨r, hrr⟩ : ∃ r, L[b + 1] = r := ⟨_, rfl⟩
      rw [hrr] at hr
      have hrs : ¬ n + r.k.length ≤ 512 := fun e => hnx ⟨r, hr, e⟩
      have d2 : decide ((b : Int) + 1 < (L.length : Int)) = true := by simp; omega
      have d3 : decide ((n : Int) + (r.k.length : Int) ≤ 512) = false := by simp; omega
      have hr5 := HK.out.le r.k (List.mem_map_of_mem (f := Blk.k) (List.mem_of_getElem? hr))
      have hr2 : (L.set b q)[b + 1]? = some r := by rw [List.getElem?_set_ne (by omega)]; exact hr
      have hrm := HW2.out.rep.ok r (List.mem_of_getElem? hr2)
      have k4 := HW2.out.rep.cellRow (b + 1) r hr2
      unfold Blk.val at k4
      have e1 : ((b : Int) + 1).toNat = b + 1 := by omega
      have e3 : (b : Int) + 1 < (L.length : Int) := by omega
      have hrl := hrm.2.2.1
      have hrx := hrm.2.2.2
      unfold maxLen at hrx
      clear hr hrr hr2 hrm hnx
    case' neg =>
      have d2 : decide ((b : Int) + 1 < (L.length : Int)) = false := by simp; omega
      clear hnx
    all_goals
      by_cases hq4 : (n : Int) ≤ (q.xs.length : Int) / 4
      · go_wp2
        go_region_with (go_at_call 26; refine (CL.out).mono ?_; rintro e w6 ⟨g2, c2, rfl, y1, ⟨y2, y3⟩, y4, y5⟩; have Y5 := hide y5; clear y5)
        all_goals go_end0
        all_goals exact Y5.out
      · have hqb : decide ((n : Int) ≤ (q.xs.length : Int) / 4) = false := by simp; omega
        go_wp2
        go_end0
        exact HW2.out.post HPL.out
  have d6 : decide ((v.k.length : Int) + (n : Int) ≤ 512) = true := by simp; omega
  have HQN : Hid (q.k.length = n) := by unfold Hid; rw [HQK.out, HQL.out]
  have hqo := HW2.out.rep.ok q (List.mem_of_getElem? HQ.out)
  have HQO := hide hqo
  clear hqo
  have hsrc : Hid (0 < n → ∃ ad, some (⟨q.g, 0, none⟩ : Addr) = some ad ∧ ∀ j u, (q.k.map Value.string)[j]? = some u → w2.drew.cell? (ad.add j) = some u) := by
    intro _
    refine ⟨_, rfl, fun j u hu => ?_⟩
    rw [Addr.add_lit, Nat.zero_add]
    rw [List.getElem?_map, Option.map_eq_some_iff] at hu
    obtain ⟨s, hs, rfl⟩ := hu
    exact Blk.cell HQO.out j s hs
  by_cases hb1 : b + 1 < L.length
  case' pos =>
    have hr : L[b + 1]? = some L[b + 1] := by simp
    obtain ⟨r, hrr⟩ : ∃ r, L[b + 1] = r := ⟨_, rfl⟩
    rw [hrr] at hr
    have hrs : ¬ n + r.k.length ≤ 512 := fun e => hnx ⟨r, hr, e⟩
    have d2 : decide ((b : Int) + 1 < (L.length : Int)) = true := by simp; omega
    have d3 : decide ((n : Int) + (r.k.length : Int) ≤ 512) = false := by simp; omega
    have hr5 := HK.out.le r.k (List.mem_map_of_mem (f := Blk.k) (List.mem_of_getElem? hr))
    have hr2 : (L.set b q)[b + 1]? = some r := by rw [List.getElem?_set_ne (by omega)]; exact hr
    have hrm := HW2.out.rep.ok r (List.mem_of_getElem? hr2)
    have k4 := HW2.out.rep.cellRow (b + 1) r hr2
    unfold Blk.val at k4
    have e1 : ((b : Int) + 1).toNat = b + 1 := by omega
    have e3 : (b : Int) + 1 < (L.length : Int) := by omega
    have hrl := hrm.2.2.1
    have hrx := hrm.2.2.2
    unfold maxLen at hrx
    clear hr hrr hr2 hrm hnx
  case' neg =>
    have d2 : decide ((b : Int) + 1 < (L.length : Int)) = false := by simp; omega
    clear hnx
  all_goals
    go_wp2
    go_region_law (refine step_app rfl (.tmp 122) (.tmp 123) 22 rfl 9 (.string ByteArray.empty) 16 Try.underlying22 Try.info9 rfl v.g v.k.length v.xs.length v.xs rfl HVO.out.1 hvl rfl (by unfold maxLen; omega) (some ⟨q.g, 0, none⟩) n q.xs.length (q.k.map Value.string) rfl (by rw [List.length_map]; exact HQN.out) hsrc.out (strs_one _) (by unfold maxLen; omega) (by omega) ?_; intro g3 xs3 w3 H3; rw [← HQN.out] at H3; obtain ⟨w4, hw4, v1, v2, v3, V3⟩ := merge_facts HW2.out HV.out rfl H3; rw [HQN.out] at hw4; have z1 := v1.trans k1; have z2 := (v2 c).trans k5; have z4 := v3 c; clear v1 v2 v3)
  all_goals
    obtain ⟨m, hm⟩ : ∃ m, Blk.mk g3 xs3 (v.k ++ q.k) = m := ⟨_, rfl⟩
    have hmk : m.k = v.k ++ q.k := by rw [← hm]
    have hmx : m.xs = xs3 := by rw [← hm]
    have hmg : m.g = g3 := by rw [← hm]
    rw [hm] at V3
    have HMK := hide hmk
    have HX3 : Hid (xs3.length ≤ maxLen) := H3.out.2.2.2.1
    have hl3 : ((L.set b q).set c m).length = L.length := by simp
    have HL3 := hide hl3
    have DB := hide (db38 bs G _ ((L.set b q).set c m) (c + 1) w4 V3.out.rep (by rw [HL3.out]; omega) (by rw [HL3.out]; exact hL))
    rw [show (((c + 1 : Nat)) : Int) = (c : Int) + 1 from rfl] at DB
    have HPL : Hid (RPl (keysOf L) (keysOf (((L.set b q).set c m).eraseIdx (c + 1))) key) := by
      have hkb := HKB.out
      unfold Hid
      rw [keys_erase, keys_set, keys_set, HMK.out, HQK.out, HC.out]
      rw [HC.out] at hkb
      exact rpl_prev HK.out hkb HKv.out HI.out (by rw [HQL.out]; exact hpv)
    have HM : Hid ((((L.set b q).set c m).eraseIdx (c + 1))[c]? = some m) := by
      unfold Hid
      rw [List.getElem?_eraseIdx_of_lt (by omega), List.getElem?_set_self (by rw [HLs.out]; exact hcl)]
    have hlen : (((L.set b q).set c m).eraseIdx (c + 1)).length = L.length - 1 := by
      rw [List.length_eraseIdx_of_lt (by rw [HL3.out]; omega), HL3.out]
    have HLen := hide hlen
    have HMN : Hid (m.k.length = v.k.length + n) := by unfold Hid; rw [HMK.out, List.length_append, HQN.out]
    clear hl3 hlen hmk H3 hm z1 z2 z4 k1 k2 k3 k5 k6
    subst hmx hmg
    go_wp2_with fail
    refine (DB.out).mono ?_
    rintro e w5 ⟨rfl, t1, G', ys', t2, t3⟩
    have HW5 := hide (V3.out.del (List.eraseIdx_sublist ..) t1 t2 t3)
    obtain ⟨l', hl'⟩ : ∃ l', L.length = l' + 1 := ⟨L.length - 1, by omega⟩
    have HL' : Hid (((((L.set b q).set c m).eraseIdx (c + 1))).length = l') := by unfold Hid; rw [HLen.out]; omega
    have CL := hide (clone_call HW5.out HM.out HPL.out (v.k.length + n) l' HMN.out HL'.out (by omega))
    have x1 := HW5.out.rep.cellPtr
    rw [HL'.out] at x1
    have x2 := HW5.out.rep.cellRow c m HM.out
    unfold Blk.val at x2
    rw [HMN.out] at x2
    have x3 : w5.frozen? ⟨G', c, none⟩ = false := by simp [World.frozen?, HW5.out.rep.row]
    have x4 : (c : Int) < (l' : Int) := by omega
    have x5 : m.xs.length ≤ 2 ^ 63 - 1 := HX3.out
    have x6 := HW5.out.rep.ym
    unfold maxLen at x6
    clear t1 t2 t3 DB c1 c2 c3 hw2 hw4
    by_cases hq4 : (v.k.length : Int) + (n : Int) ≤ (m.xs.length : Int) / 4
    · go_wp2
      go_region_with (go_at_call 26; refine (CL.out).mono ?_; rintro e w6 ⟨g2, c2, rfl, y1, ⟨y2, y3⟩, y4, y5⟩; have Y5 := hide y5; clear y5)
      all_goals go_end0
      all_goals exact Y5.out
    · have hqb : decide ((v.k.length : Int) + (n : Int) ≤ (m.xs.length : Int) / 4) = false := by simp; omega
      go_wp2
      go_end0
      exact HW5.out.post HPL.out
end Go.Proofs.Qxb6606313a
