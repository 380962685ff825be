/-
  (*sortedKeys).deleteBlock, walked. Not trusted: the kernel checks it.
-/
import Derived.Test.Qxb6606313aDelete
import Derived.Test.Qxb6606313aFlat
import Derived.Deep.QuietTactic
import Derived.BigQuiet
namespace Go.Proofs.Qxb6606313a
open Go.RowKit Go.Deep
set_option linter.unusedVariables false

theorem Rep.of_heap {w w' : World} {bs G : Nat} {ys : List Value} {L : List Blk} (h : Rep w bs G ys L) (he : w'.heap = w.heap) : Rep w' bs G ys L := h.of_blocks (fun x _ => by rw [he])
theorem Rep.bsG {w : World} {bs G : Nat} {ys : List Value} {L : List Blk} (h : Rep w bs G ys L) : bs ≠ G := by
  have := (List.nodup_cons.1 h.nd).1
  intro e; exact this (by rw [e]; exact List.mem_cons_self ..)
theorem Rep.bsp {w : World} {bs G : Nat} {ys : List Value} {L : List Blk} (h : Rep w bs G ys L) {p : Blk} (hp : p ∈ L) : bs ≠ p.g := by
  have := (List.nodup_cons.1 h.nd).1
  intro e; exact this (by rw [e]; exact List.mem_cons_of_mem _ (List.mem_map_of_mem hp))
theorem Rep.Gp {w : World} {bs G : Nat} {ys : List Value} {L : List Blk} (h : Rep w bs G ys L) {p : Blk} (hp : p ∈ L) : G ≠ p.g := by
  have := (List.nodup_cons.1 (List.nodup_cons.1 h.nd).2).1
  intro e; exact this (by rw [e]; exact List.mem_map_of_mem hp)
theorem Rep.bslt {w : World} {bs G : Nat} {ys : List Value} {L : List Blk} (h : Rep w bs G ys L) : bs < w.heap.size := (Array.getElem?_eq_some_iff.1 h.ptr).1
theorem Rep.Glt {w : World} {bs G : Nat} {ys : List Value} {L : List Blk} (h : Rep w bs G ys L) : G < w.heap.size := (Array.getElem?_eq_some_iff.1 h.row).1

/-- the list of blocks moved or shortened: the blocks stand as they stood -/
theorem Rep.relist {w w' : World} {bs G : Nat} {ys : List Value} {L : List Blk} (h : Rep w bs G ys L) {G' : Nat} {ys' : List Value} {L' : List Blk} (hs : L'.Sublist L)
    (hptr : w'.heap[bs]? = some (.cells #[.slice (some ⟨G', 0, none⟩) L'.length ys'.length] 41 (0, 0))) (hrow : w'.heap[G']? = some (.cells ys'.toArray 22 (0, 0)))
    (hyt : ys'.take L'.length = L'.map Blk.val) (hyl : L'.length ≤ ys'.length) (hym : ys'.length ≤ maxLen) (hT : Touch (fun k => k = bs ∨ k = G) w w') (hG : G' = G ∨ w.heap.size ≤ G') : Rep w' bs G' ys' L' := by
  refine ⟨hptr, hrow, hyt, hyl, hym, fun p hp => ?_, ?_⟩
  · have hpL := hs.subset hp
    exact Blk.ok_of (h.ok p hpL) (hT.block p.g (Blk.lt (h.ok p hpL)) (fun e => by
      rcases e with e | e
      · exact h.bsp hpL e.symm
      · exact h.Gp hpL e.symm))
  · have hsub : (L'.map Blk.g).Sublist (L.map Blk.g) := hs.map _
    rcases hG with rfl | hG
    · exact List.Sublist.nodup ((hsub.cons_cons _).cons_cons _) h.nd
    · have n1 : (bs :: L'.map Blk.g).Nodup := List.Sublist.nodup (hsub.cons_cons bs) (by
        have := h.nd
        exact List.Sublist.nodup ((List.sublist_cons_self G _).cons_cons bs) this)
      obtain ⟨m1, m2⟩ := List.nodup_cons.1 n1
      refine List.nodup_cons.2 ⟨fun e => ?_, List.nodup_cons.2 ⟨fun e => ?_, m2⟩⟩
      · rcases List.mem_cons.1 e with e | e
        · have := h.bslt; omega
        · exact m1 e
      · obtain ⟨p, hp, e⟩ := List.mem_map.1 e
        have := Blk.lt (h.ok p (hs.subset hp)); omega

def DBPost (w : World) (bs G : Nat) (L' : List Blk) (e : Ending) (w' : World) : Prop :=
  e = .returned (.tuple #[]) ∧ Touch (fun k => k = bs ∨ k = G) w w' ∧ ∃ G' ys', Rep w' bs G' ys' L' ∧ (G' = G ∨ w.heap.size ≤ G')

theorem Rep.one {w : World} {bs G : Nat} {ys : List Value} {L : List Blk} (h : Rep w bs G ys L) : ∀ u ∈ ys.take L.length, u.oneCell' = true := by
  rw [h.ytake]
  intro u hu
  obtain ⟨p, _, rfl⟩ := List.mem_map.1 hu
  rfl

theorem map_erase {α β : Type} (f : α → β) (l : List α) (b : Nat) : (l.map f).eraseIdx b = (l.eraseIdx b).map f := by
  rw [List.eraseIdx_eq_take_drop_succ, List.eraseIdx_eq_take_drop_succ, List.map_append, List.map_take, List.map_drop]
theorem heap_drewN (w : World) (k : Nat) : (w.drewN k).heap = w.heap := rfl
theorem Touch.drewN {S : Nat → Prop} {a w : World} (h : Touch S a w) (k : Nat) : Touch S a (w.drewN k) := ⟨h.os, h.tape, h.output, h.size, h.block⟩

set_option maxHeartbeats 2000000 in
theorem db38 (bs G : Nat) (ys : List Value) (L : List Blk) (b : Nat) (w : World) (hR : Rep w bs G ys L) (hb : b < L.length) (hL : L.length ≤ 100000) :
    Calls Try.prog 38 #[.pointer (some ⟨bs, 0, none⟩), .int .i64 b] w (DBPost w bs G (L.eraseIdx b)) := by
  have hc := hR.cellPtr
  have D := hide (del44 G L.length ys.length b ys w hR.row hR.yl rfl hR.ym hb (by omega) hR.one)
  have HR := hide hR
  have hfz : w.frozen? ⟨bs, 0, none⟩ = false := by simp [World.frozen?, hR.ptr]
  have hyl := hR.yl
  have hym := hR.ym
  unfold maxLen at hym
  clear hR
  obtain ⟨n', hn'⟩ : ∃ n', L.length = n' + 1 := ⟨L.length - 1, by omega⟩
  have HN := hide hn'
  rw [hn'] at hc D hyl hb hL
  clear hn'
  go_enter Try.func38, Try.ntmps38
  go_wp2_with fail
  refine (D.out).mono ?_
  rintro e w1 ⟨ys', rfl, h1, h2, h3, h4⟩
  simp only [Nat.add_sub_cancel] at h2 ⊢
  have hll : (L.eraseIdx b).length = n' := by rw [List.length_eraseIdx_of_lt (by rw [HN.out]; exact hb), HN.out]; rfl
  have hp1 : w1.heap[bs]? = some (.cells #[.slice (some ⟨G, 0, none⟩) (n' + 1) ys.length] 41 (0, 0)) := by
    have := (h4.block bs HR.out.bslt HR.out.bsG).trans HR.out.ptr
    rw [HN.out] at this; exact this
  have c1 : w1.cell? ⟨bs, 0, none⟩ = some (.slice (some ⟨G, 0, none⟩) (n' + 1) ys.length) := by rw [cell_of_row w1 bs 0 _ _ _ hp1]; rfl
  have f1 : w1.frozen? ⟨bs, 0, none⟩ = false := by simp [World.frozen?, hp1]
  have hT2 : Touch (fun k => k = bs ∨ k = G) w (w1.setCell ⟨bs, 0, none⟩ (.slice (some ⟨G, 0, none⟩) n' ys'.length)) := (h4.mono (fun k _ e => .inr e)).setCell (fun _ => .inl rfl) _
  have hR2 : Rep (w1.setCell ⟨bs, 0, none⟩ (.slice (some ⟨G, 0, none⟩) n' ys'.length)) bs G ys' (L.eraseIdx b) := by
    refine HR.out.relist (List.eraseIdx_sublist ..) ?_ ?_ ?_ (by rw [hll, h3]; omega) (by rw [h3]; unfold maxLen; omega) hT2 (.inl rfl)
    · rw [hll]; exact set_one _ hp1
    · rw [Below.heap_setCell _ _ _ _ (fun e => HR.out.bsG e.symm)]; exact h1
    · rw [hll, h2, ← HN.out, HR.out.ytake, map_erase]
  have hym2 : ys'.length ≤ 2 ^ 63 - 1 := by rw [h3]; exact hym
  have hyl2 : n' ≤ ys'.length := by rw [h3]; omega
  have c2 := hR2.cellPtr
  rw [hll] at c2
  have f2 : (w1.setCell ⟨bs, 0, none⟩ (.slice (some ⟨G, 0, none⟩) n' ys'.length)).frozen? ⟨bs, 0, none⟩ = false := by simp [World.frozen?, hR2.ptr]
  have R2 := hide hR2
  have HT2 := hide hT2
  have HLL := hide hll
  obtain ⟨w2, hw2⟩ : ∃ w2, w1.setCell ⟨bs, 0, none⟩ (.slice (some ⟨G, 0, none⟩) n' ys'.length) = w2 := ⟨_, rfl⟩
  rw [hw2] at R2 HT2 c2 f2
  clear h1 h2 h3 h4 hT2 hR2 hp1 D hc hfz hll
  go_wp2
  clear c1 f1 hw2
  by_cases hg : 16 < ys'.length
  · have hgb : decide ((16 : Int) < (ys'.length : Int)) = true := by simp; omega
    by_cases hq : (n' : Int) ≤ (ys'.length : Int) / 4
    · go_quiet (fail)
      have CL := hide (cl45 (some ⟨G, 0, none⟩) n' ys'.length ((L.eraseIdx b).map Blk.val) (w2.drewN nq) (by rw [List.length_map]; exact HLL.out) (by omega) (by simp)
        (fun _ => ⟨⟨G, 0, none⟩, rfl, R2.out.Glt, fun j u hu => by
          rw [Addr.add_lit, Nat.zero_add]
          rw [List.getElem?_map, Option.map_eq_some_iff] at hu
          obtain ⟨p, hp, rfl⟩ := hu
          exact R2.out.cellRow j p hp⟩) (fun u hu => by obtain ⟨p, _, rfl⟩ := List.mem_map.1 hu; rfl))
      go_wp2_with fail
      refine (CL.out).mono ?_
      rintro e w3 ⟨G', zs, rfl, l1, l2, l3, l4, l5, l6⟩
      have hp3 : w3.heap[bs]? = some (.cells #[.slice (some ⟨G, 0, none⟩) n' ys'.length] 41 (0, 0)) := by
        have := (l5.block bs R2.out.bslt).trans R2.out.ptr
        rw [HLL.out] at this; exact this
      have c3 : w3.cell? ⟨bs, 0, none⟩ = some (.slice (some ⟨G, 0, none⟩) n' ys'.length) := by rw [cell_of_row w3 bs 0 _ _ _ hp3]; rfl
      have f3 : w3.frozen? ⟨bs, 0, none⟩ = false := by simp [World.frozen?, hp3]
      rw [List.length_map, HLL.out] at l2 l3 ⊢
      have l6' : w2.heap.size ≤ G' := l6
      have hsz := HT2.out.size
      have hT4 : Touch (fun k => k = bs ∨ k = G) w (w3.setCell ⟨bs, 0, none⟩ (.slice (some ⟨G', 0, none⟩) n' zs.length)) :=
        (HT2.out.trans (show Touch (fun k => k = bs ∨ k = G) w2 w3 from ⟨l5.os, l5.tape, l5.output, l5.size, fun k hk _ => l5.block k hk⟩)).setCell (fun _ => .inl rfl) _
      have R4 : Hid (Rep (w3.setCell ⟨bs, 0, none⟩ (.slice (some ⟨G', 0, none⟩) n' zs.length)) bs G' zs (L.eraseIdx b)) := by
        refine HR.out.relist (List.eraseIdx_sublist ..) ?_ ?_ ?_ (by rw [HLL.out]; exact l3) l4 hT4 (.inr (by omega))
        · rw [HLL.out]; exact set_one _ hp3
        · rw [Below.heap_setCell _ _ _ _ (fun e => by have := R2.out.bslt; simp at e; omega)]; exact l1
        · rw [HLL.out, l2]
      have HT4 := hide hT4
      have HG' : Hid (w.heap.size ≤ G') := by unfold Hid; omega
      clear l1 l2 l3 l4 l5 l6 l6' hp3 hT4 hsz CL
      go_wp2
      go_end0
      exact ⟨rfl, HT4.out, G', zs, R4.out, .inr HG'.out⟩
    · have hqb : decide ((n' : Int) ≤ (ys'.length : Int) / 4) = false := by simp; omega
      go_quiet (fail)
      go_wp2
      go_end0
      exact ⟨rfl, HT2.out.drewN _, G, ys', R2.out.of_heap rfl, .inl rfl⟩
  · have hgb : decide ((16 : Int) < (ys'.length : Int)) = false := by simp; omega
    go_quiet (fail)
    go_wp2
    go_end0
    exact ⟨rfl, HT2.out.drewN _, G, ys', R2.out.of_heap rfl, .inl rfl⟩
end Go.Proofs.Qxb6606313a
