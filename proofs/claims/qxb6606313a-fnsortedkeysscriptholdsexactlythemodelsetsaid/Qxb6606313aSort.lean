/-
  zzSortStrings, walked, and the plain laws of sorted lists. Not trusted: the kernel checks it.
-/
import Derived.Test.Qxb6606313aLawA
namespace Go.Proofs.Qxb6606313a
open Go.RowKit Go.Deep
set_option linter.unusedVariables false

/-! ### plain: sorted, equals allowed -/
def SrtL (l : List ByteArray) : Prop := l.Pairwise (fun a b => lts b a = false)
theorem pw_map {α : Type} {R S : α → α → Prop} (h : ∀ a b, R a b → S a b) : ∀ {l : List α}, l.Pairwise R → l.Pairwise S
  | [], _ => List.Pairwise.nil
  | a :: l, hp => by
    obtain ⟨h1, h2⟩ := List.pairwise_cons.1 hp
    exact List.pairwise_cons.2 ⟨fun b hb => h a b (h1 b hb), pw_map h h2⟩
theorem Srt.le {l : List ByteArray} (h : Srt l) : SrtL l := pw_map (fun _ _ h => lts_asymm h) h
theorem srt_unique {l m : List ByteArray} (h1 : SrtL l) (h2 : SrtL m) (hp : l.Perm m) : l = m := by
  refine List.Perm.eq_of_pairwise (fun a b _ _ h3 h4 => ?_) h1 h2 hp
  by_cases e : a = b
  · exact e
  · rcases lts_total e with h | h
    · rw [h] at h4; cases h4
    · rw [h] at h3; cases h3
/-- not below: transitive -/
theorem nl_trans {a b c : ByteArray} (h1 : lts b a = false) (h2 : lts c b = false) : lts c a = false := by
  cases e : lts c a with
  | false => rfl
  | true =>
    by_cases hab : a = b
    · subst hab; rw [e] at h2; cases h2
    · rcases lts_total hab with h | h
      · rw [lts_trans e h] at h2; cases h2
      · rw [h] at h1; cases h1
theorem srtL_ins {P : List ByteArray} (hP : SrtL P) (j : Nat) (x : ByteArray) (h1 : ∀ y ∈ P.take j, lts x y = false) (h2 : ∀ y ∈ P.drop j, lts y x = false) : SrtL (ins P j x) := by
  unfold SrtL ins
  have hP' : SrtL (P.take j ++ P.drop j) := by rw [List.take_append_drop]; exact hP
  obtain ⟨p1, p2, p3⟩ := List.pairwise_append.1 hP'
  refine List.pairwise_append.2 ⟨p1, List.pairwise_cons.2 ⟨h2, p2⟩, ?_⟩
  intro a ha b hb
  rcases List.mem_cons.1 hb with rfl | hb
  · exact h1 a ha
  · exact p3 a ha b hb

theorem Dst.set {w : World} {gd n : Nat} {xd : List Value} {C : List ByteArray} (h : Dst w gd n xd C) (j : Nat) (s : ByteArray) (hj : j < C.length) : Dst (w.setCell ⟨gd, j, none⟩ (.string s)) gd n (xd.set j (.string s)) (C.set j s) := by
  obtain ⟨h1, h2, h3, h4⟩ := h
  refine ⟨set_row j _ h1, by simpa using h2, ?_, by simpa using h4⟩
  rw [List.length_set, List.take_set, h3, List.map_set]
theorem Dst.cell {w : World} {gd n : Nat} {xd : List Value} {C : List ByteArray} (h : Dst w gd n xd C) (j : Nat) (s : ByteArray) (hs : C[j]? = some s) : w.cell? ⟨gd, j, none⟩ = some (.string s) := by
  obtain ⟨h1, h2, h3, h4⟩ := h
  rw [cell_of_row w gd j xd.toArray 9 (0, 0) h1, List.getElem?_toArray]
  have hj : j < C.length := (List.getElem?_eq_some_iff.1 hs).1
  have e : (xd.take C.length)[j]? = xd[j]? := List.getElem?_take_of_lt hj
  rw [← e, h3, List.getElem?_map, hs]; rfl
theorem Dst.frozen {w : World} {gd n : Nat} {xd : List Value} {C : List ByteArray} (h : Dst w gd n xd C) (j : Nat) : w.frozen? ⟨gd, j, none⟩ = false := by
  simp [World.frozen?, h.1]

/-- the row in the middle of the inner loop: a hole at j -/
def Hole (P R : List ByteArray) (j : Nat) (h : ByteArray) : List ByteArray := P.take j ++ h :: (P.drop j ++ R)
theorem hole_len (P R : List ByteArray) (j : Nat) (h : ByteArray) (hj : j ≤ P.length) : (Hole P R j h).length = P.length + 1 + R.length := by
  unfold Hole; simp; omega
theorem hole_prev (P R : List ByteArray) (j : Nat) (h y : ByteArray) (hj : j < P.length) (hy : P[j]? = some y) : (Hole P R (j + 1) h)[j]? = some y := by
  unfold Hole
  rw [List.getElem?_append_left (by simp; omega), List.getElem?_take_of_lt (by omega)]; exact hy
theorem hole_set (P R : List ByteArray) (j : Nat) (h x : ByteArray) (hj : j ≤ P.length) : (Hole P R j h).set j x = Hole P R j x := by
  unfold Hole
  rw [List.set_append_right _ _ (by simp; omega)]
  simp [Nat.min_eq_left hj]
theorem hole_down (P R : List ByteArray) (j : Nat) (y : ByteArray) (hj : j < P.length) (hy : P[j]? = some y) : Hole P R (j + 1) y = Hole P R j y := by
  obtain ⟨_, rfl⟩ := List.getElem?_eq_some_iff.1 hy
  unfold Hole
  have e1 := List.take_succ_eq_append_getElem hj
  have e2 := List.drop_eq_getElem_cons hj
  rw [e1, e2, List.append_assoc]
  rfl

theorem hole_ins (P R : List ByteArray) (j : Nat) (h : ByteArray) : Hole P R j h = ins P j h ++ R := by
  unfold Hole ins; simp
theorem ins_perm' (P : List ByteArray) (j : Nat) (h : ByteArray) : (ins P j h).Perm (h :: P) := by
  unfold ins
  refine List.perm_middle.trans ?_
  rw [List.take_append_drop]
theorem hole_perm (P R : List ByteArray) (i j : Nat) (h : ByteArray) : (Hole P R i h).Perm (Hole P R j h) := by
  rw [hole_ins, hole_ins]
  exact List.Perm.append_right _ ((ins_perm' P i h).trans (ins_perm' P j h).symm)
theorem hole_take (P R : List ByteArray) (j : Nat) (h : ByteArray) (hj : j ≤ P.length) : (Hole P R j h).take (P.length + 1) = ins P j h := by
  have : (ins P j h).length = P.length + 1 := (ins_perm' P j h).length_eq
  rw [hole_ins, ← this, List.take_left]

def SPost (w : World) (gd n : Nat) (D : List ByteArray) (e : Ending) (w' : World) : Prop :=
  e = .returned (.tuple #[]) ∧ ∃ xd' D', Dst w' gd n xd' D' ∧ D'.Perm D ∧ SrtL D' ∧ Touch (· = gd) w w'

set_option maxHeartbeats 2000000 in
set_option maxRecDepth 100000 in
theorem sort11 (gd n : Nat) (xd : List Value) (D : List ByteArray) (w : World) (hD : Dst w gd n xd D) (hn : n ≤ 100000) :
    Calls Try.prog 11 #[.slice (some ⟨gd, 0, none⟩) D.length n] w (SPost w gd n D) := by
  have hDn := hD.2.2.2
  have HD := hide hD
  obtain ⟨m, hm⟩ : ∃ m, D.length = m := ⟨_, rfl⟩
  rw [hm] at hDn ⊢
  have HM := hide hm
  clear hD hm
  go_enter Try.func11, Try.ntmps11
  go_wp2
  go_loopw [2] (fun i wr => ∃ (k : Nat) (E : List ByteArray) (xe : List Value), 1 ≤ k ∧ i = .int .i64 k ∧ E.length = m ∧ E.Perm D ∧ SrtL (E.take k) ∧ Dst wr gd n xe E ∧ Touch (· = gd) w wr) (fun i _ => m - (intOf i).toNat)
  case atStart => exact ⟨1, D, xd, Nat.le_refl _, rfl, HM.out, List.Perm.refl _, by
    cases D with
    | nil => simp [SrtL]
    | cons a l => simp [SrtL], HD.out, Touch.refl _ _⟩
  case round =>
    obtain ⟨k, E, xe, hk, rfl, hEm, hEp, hEs, hEd, hT⟩ := hrel
    have HEm := hide hEm
    have HEp := hide hEp
    have HEs := hide hEs
    have HEd := hide hEd
    have HT := hide hT
    clear hEm hEp hEs hEd hT HD
    by_cases hlt : k < m
    case neg =>
      go_wp2
      go_end0
      refine ⟨rfl, xe, E, HEd.out, HEp.out, ?_, HT.out⟩
      have := HEs.out
      rw [List.take_of_length_le (by have := HEm.out; omega)] at this
      exact this
    have hkE : k < E.length := by have := HEm.out; omega
    have hck := HEd.out.cell k E[k] (by simp [hkE])
    obtain ⟨P, hP⟩ : ∃ P, E.take k = P := ⟨_, rfl⟩
    obtain ⟨R, hR⟩ : ∃ R, E.drop (k + 1) = R := ⟨_, rfl⟩
    have hPl : P.length = k := by rw [← hP]; simp; omega
    have hRl : R.length = m - (k + 1) := by rw [← hR]; simp; have := HEm.out; omega
    have hE : Hid (E = Hole P R k E[k]) := by
      unfold Hid Hole
      have h := split_at E k E[k] (by simp [hkE])
      rw [hP] at h
      have t1 : P.take k = P := List.take_of_length_le (by omega)
      have t2 : P.drop k = [] := List.drop_of_length_le (by omega)
      rw [t1, t2, List.nil_append, ← hR]
      simpa using h
    rw [hP] at HEs
    obtain ⟨x, hx⟩ : ∃ x, E[k] = x := ⟨_, rfl⟩
    rw [hx] at hck hE
    clear hx hP hR
    go_wp2
    obtain ⟨wo, rfl⟩ : ∃ wo : World, wo = wr := ⟨_, rfl⟩
    go_loopw [4] (fun i wr => ∃ (j : Nat) (h : ByteArray) (xc : List Value), j ≤ k ∧ i = .int .i64 j ∧ (∀ y ∈ P.drop j, lts x y = true) ∧ Dst wr gd n xc (Hole P R j h) ∧ Touch (· = gd) w wr) (fun i _ => (intOf i).toNat)
    case atStart => exact ⟨k, x, xe, Nat.le_refl _, rfl, by rw [← hPl, List.drop_length]; simp, by rw [← hE.out]; exact HEd.out, HT.out⟩
    case round =>
      clear hck
      obtain ⟨j, h, xc, hj, rfl, hjd, hDc, hTc⟩ := hrel
      have HJ := hide hjd
      have HC := hide hDc
      have HT2 := hide hTc
      clear hjd hDc hTc
      have hhl := hole_len P R j h (by omega)
      by_cases hj0 : 0 < j
      · obtain ⟨j', rfl⟩ : ∃ j', j = j' + 1 := ⟨j - 1, by omega⟩
        have hjP : j' < P.length := by omega
        have hcy := HC.out.cell j' P[j'] (hole_prev P R j' h _ hjP (by simp [hjP]))
        have HY : Hid (P[j']? = some P[j']) := by simp [Hid, hjP]
        have HDr : Hid (P.drop j' = P[j'] :: P.drop (j' + 1)) := List.drop_eq_getElem_cons hjP
        obtain ⟨y, hy⟩ : ∃ y, P[j'] = y := ⟨_, rfl⟩
        rw [hy] at hcy HY HDr
        clear hy
        have e1 : ((j' : Int) + 1 - 1).toNat = j' := by omega
        have e2 : (((j' + 1 : Nat) : Int) - 1).toNat = j' := by omega
        by_cases hg : lts x y = true
        · have g1 : Op.bytesLess y.toList x.toList = false := lts_asymm hg
          have g2 : (y.toList == x.toList) = false := by rw [beq_eq_false_iff_ne]; exact fun e => lts_ne hg (ba_ext e).symm
          have c3 := HC.out.cell (j' + 1) h (by unfold Hole; rw [List.getElem?_append_right (by simp; omega)]; simp [Nat.min_eq_left (show j' + 1 ≤ P.length from hjP)])
          have c4 := HC.out.frozen (j' + 1)
          have N1 := hide (HC.out.set (j' + 1) y (by omega))
          rw [hole_set P R (j' + 1) h y (by omega), hole_down P R j' y hjP HY.out] at N1
          have N2 := hide (HT2.out.setCell (p := ⟨gd, j' + 1, none⟩) (fun _ => rfl) (.string y))
          have HG := hide hg
          clear hg hhl
          go_wp2
          go_roundw
          case rel => exact ⟨j', y, _, by omega, by go_num, by rw [HDr.out]; intro z hz; rcases List.mem_cons.1 hz with rfl | hz; exact HG.out; exact HJ.out z hz, N1.out, N2.out⟩
          case measure => simp [intOf]
        · have hg' : lts x y = false := by simpa using hg
          have hEnd : Hid (SrtL (ins P (j' + 1) x)) := by
            refine srtL_ins HEs.out _ _ (fun z hz => ?_) (fun z hz => lts_asymm (HJ.out z hz))
            obtain ⟨t, ht, rfl⟩ := List.mem_iff_getElem.1 hz
            rw [List.length_take] at ht
            rw [List.getElem_take]
            have hyy := (List.getElem?_eq_some_iff.1 HY.out).2
            by_cases e : t = j'
            · subst e; rw [hyy]; exact hg'
            · have := List.pairwise_iff_getElem.1 HEs.out t j' (by omega) hjP (by omega)
              rw [hyy] at this
              exact nl_trans this hg'
          have hor : (Op.bytesLess y.toList x.toList || y.toList == x.toList) = true := by
            by_cases e : y = x
            · subst e; simp
            · rcases lts_total e with h | h
              · have : Op.bytesLess y.toList x.toList = true := h
                rw [this]; rfl
              · rw [h] at hg'; cases hg'
          have c3 := HC.out.cell (j' + 1) h (by unfold Hole; rw [List.getElem?_append_right (by simp; omega)]; simp [Nat.min_eq_left (show j' + 1 ≤ P.length from hjP)])
          have c4 := HC.out.frozen (j' + 1)
          have N1 := hide (HC.out.set (j' + 1) x (by omega))
          rw [hole_set P R (j' + 1) h x (by omega)] at N1
          have N2 := hide (HT2.out.setCell (p := ⟨gd, j' + 1, none⟩) (fun _ => rfl) (.string x))
          clear hg hg' hhl
          go_wp2
          refine ⟨⟨k + 1, _, _, by omega, rfl, ?_, ?_, ?_, N1.out, N2.out⟩, ?_⟩
          · rw [hole_len P R _ _ (by omega)]; omega
          · refine (hole_perm P R _ k x).trans ?_; rw [← hE.out]; exact HEp.out
          · rw [← hPl, hole_take P R _ _ (by omega)]; exact hEnd.out
          · simp [intOf]; omega
      · obtain rfl : j = 0 := by omega
        have hEnd : Hid (SrtL (ins P 0 x)) := by
          refine srtL_ins HEs.out _ _ (fun z hz => ?_) (fun z hz => lts_asymm (HJ.out z hz))
          simp at hz
        have c3 := HC.out.cell 0 h (by unfold Hole; simp)
        have c4 := HC.out.frozen 0
        have N1 := hide (HC.out.set 0 x (by omega))
        rw [hole_set P R 0 h x (by omega)] at N1
        have N2 := hide (HT2.out.setCell (p := ⟨gd, 0, none⟩) (fun _ => rfl) (.string x))
        clear hhl hj0
        go_wp2
        refine ⟨⟨k + 1, _, _, by omega, rfl, ?_, ?_, ?_, N1.out, N2.out⟩, ?_⟩
        · rw [hole_len P R _ _ (by omega)]; omega
        · refine (hole_perm P R _ k x).trans ?_; rw [← hE.out]; exact HEp.out
        · rw [← hPl, hole_take P R _ _ (by omega)]; exact hEnd.out
        · simp [intOf]; omega
end Go.Proofs.Qxb6606313a
