/-
  The law 'FnSortedKeysAddHoldsExactlyItsKeysInOrder' (function 3), walked. Not trusted: the kernel checks it.
-/
import Derived.Test.Qxb6606313aFlat
namespace Go.Proofs.Qxb6606313a
open Go.RowKit Go.Deep
set_option linter.unusedVariables false

set_option maxHeartbeats 1000000 in
theorem zz6 (a : Option Addr) (n c : Nat) (l : List ByteArray) (w : World) (hv : VS w a n c l) (hl : ∀ s ∈ l, s.size ≤ maxLen) : Calls Try.prog 6 #[.slice a n c] w (BPost w) := by
  obtain ⟨v1, v2, v3, v4⟩ := hv
  unfold maxLen at v3
  by_cases h1 : n ≤ 1048576
  case neg =>
    go_enter Try.func6, Try.ntmps6
    go_wp2
    go_ret
    exact ⟨false, rfl, rfl⟩
  have HL := hide hl
  clear hl
  go_enter Try.func6, Try.ntmps6
  go_wp2
  go_loop [3, 4] (fun t i => ∃ k T : Nat, k ≤ n ∧ i = .int .i64 k ∧ t = .int .i64 T ∧ T ≤ 1048576) (fun _ i => n - (intOf i).toNat)
  case atStart => exact ⟨0, n, Nat.zero_le _, rfl, by go_num, h1⟩
  case round =>
    obtain ⟨k, T, hk, rfl, rfl, hT⟩ := hrel
    by_cases hlt : k < n
    · obtain ⟨b, off, hx, hblt, hc⟩ := v4 (by omega)
      subst hx
      have hkl : k < l.length := by omega
      have hck := hc k l[k] (by simp [hkl])
      have hsz := HL.out l[k] (by simp)
      unfold maxLen at hsz
      obtain ⟨s, hs⟩ : ∃ s, l[k] = s := ⟨_, rfl⟩
      rw [hs] at hck hsz
      clear hs hc v4
      by_cases hs1 : s.size ≤ 1048576
      · by_cases hs2 : T + s.size ≤ 1048576
        · go_wp2
          go_round
          case rel => exact ⟨k + 1, T + s.size, by omega, by go_num, by go_num, hs2⟩
          case measure => simp [intOf]; omega
        · go_wp2
          go_ret
          exact ⟨false, rfl, rfl⟩
      · go_wp2
        go_ret
        exact ⟨false, rfl, rfl⟩
    · clear v4
      go_wp2
      go_ret
      exact ⟨true, rfl, rfl⟩

set_option maxHeartbeats 4000000 in
set_option maxRecDepth 100000 in
theorem walkB (a : Option Addr) (n c : Nat) (l : List ByteArray) (w : World) (hv : VS w a n c l) (hl : ∀ s ∈ l, s.size ≤ maxLen) :
    Calls Try.prog 3 #[.slice a n c] w fun e w' => e = .returned (.bool true) ∧ Below w.heap.size w w' := by
  have Z := hide (zz6 a n c l w hv hl)
  have SB := hide (sb7 a n c l w hv)
  have HV := hide hv
  have hcm := hv.2.2.1
  have hnc := hv.2.1
  unfold maxLen at hcm
  clear hv hl
  go_enter Try.func3, Try.ntmps3
  go_wp2_with fail
  refine (Z.out).mono ?_
  rintro e w ⟨b, rfl, rfl⟩
  cases b
  case false =>
    go_wp2
    go_ret
    exact ⟨rfl, Below.refl _ _⟩
  by_cases hn : n ≤ 4096
  case neg =>
    go_wp2
    go_ret
    exact ⟨rfl, Below.refl _ _⟩
  go_wp2_with fail
  refine (SB.out).mono ?_
  rintro e w ⟨r, rfl, rfl⟩
  by_cases hr : r ≤ 1048576
  case neg =>
    go_wp2
    go_ret
    exact ⟨rfl, Below.refl _ _⟩
  go_wp2_with fail
  refine (new8 w).mono ?_
  rintro e w1 ⟨rfl, rfl⟩
  have hmk := make0 n hn
  have A0 : Hid (AW w w.heap.size (w.heap.size + 1) n [w.heap.size] [] [] (List.replicate n (Value.string ByteArray.empty)) ((w.alloc (.cells #[.slice none 0 0] 41)).alloc (.cells (List.replicate n (Value.string ByteArray.empty)).toArray 9))) := by
    have z1 : (w.alloc (.cells #[.slice none 0 0] 41)).heap.size = w.heap.size + 1 := World.size_alloc _ _
    refine ⟨.inl ⟨rfl, rfl, none, 0, ?_, Nat.zero_le _⟩, ⟨?_, by simp, by simp, by simp⟩, ⟨by simp, by simp [Srt], by simp⟩, fun h => by simp at h, List.Perm.refl _, by simp, by simp, by omega, ((Below.refl _ _).alloc (Nat.le_refl _) _).alloc (by simp) _⟩
    · rw [Below.heap_alloc _ _ _ (by omega)]; exact Go.heap_alloc_new w _
    · rw [← z1]; exact Go.heap_alloc_new _ _
  clear Z SB
  go_wp2
  go_loopw [4, 5] (fun v i wr => ∃ (k : Nat) (F : List Nat) (K : List (List ByteArray)) (D : List ByteArray) (xd : List Value), k ≤ n ∧ i = .int .i64 k ∧ v = .slice (some ⟨w.heap.size + 1, 0, none⟩) D.length n ∧ D.length ≤ k ∧ AW w w.heap.size (w.heap.size + 1) n F K D xd wr) (fun _ i _ => n - (intOf i).toNat)
  case atStart => exact ⟨0, [w.heap.size], [], [], _, Nat.zero_le _, rfl, rfl, Nat.le_refl _, A0.out⟩
  case round =>
    clear A0 hmk
    obtain ⟨k, F, K, D, xd, hk, rfl, rfl, hDk, hA⟩ := hrel
    have HA := hide hA
    clear hA
    by_cases hlt : k < n
    case neg =>
      have S11 := hide (sort11 (w.heap.size + 1) n xd D wr HA.out.ds (by omega))
      go_wp2_with fail
      refine (S11.out).mono ?_
      rintro e w2 ⟨rfl, xd', D', hd2, hp2, hs2, ht2⟩
      have hst2 : St w2 w.heap.size F K := HA.out.st.of_blocks (fun x hx => ht2.block x (HA.out.st.lt x hx) (fun e => HA.out.nF (e ▸ hx)))
      have hb2 : Below w.heap.size w w2 := HA.out.be.trans (ht2.below (fun k hk e => by omega) HA.out.be.size)
      have heq : D' = K.flatten := srt_unique hs2 (HA.out.inv.srt.le) (hp2.trans HA.out.perm.symm)
      have hlD : D'.length = D.length := hp2.length_eq
      have v2 := hide (hd2.vs (by unfold maxLen; omega))
      obtain ⟨va, vn, vc, vL, hvk, hvb, hvc⟩ := hst2.view
      have hbl : (keysOf vL).flatten = D' := by rw [hvk, heq]
      have O14 := hide (blocks14 w.heap.size _ w2 hvc)
      have O13 := hide (flat13 va vn vc vL w2 hvb (by rw [hbl]; omega))
      rw [hbl] at O13
      have HB2 := hide hb2
      have HL := hide hlD
      clear hst2 hb2 heq hvk hvb hvc hbl ht2 hp2 hs2 hd2 HA S11 hlD
      go_wp2_with fail
      refine (O14.out).mono ?_
      rintro e w2 ⟨rfl, rfl⟩
      go_wp2_with fail
      refine (O13.out).mono ?_
      rintro e w3 ⟨xf, rfl, hdf, hbf⟩
      have O12 := hide (eq12 _ _ D'.length D'.length n D' w3 (hdf.vs (by unfold maxLen; have := HL.out; omega)) (v2.out.below hbf))
      rw [HL.out] at O12
      have HB3 : Hid (Below w.heap.size w w3) := HB2.out.trans (hbf.mono HB2.out.size)
      rw [HL.out]
      clear hdf hbf
      go_wp2_with fail
      refine (O12.out).mono ?_
      rintro e w4 ⟨rfl, hb4⟩
      have HB4 : Hid (Below w.heap.size w w4) := HB3.out.trans (hb4.mono HB3.out.size)
      clear hb4
      go_wp2
      go_ret
      exact ⟨rfl, HB4.out⟩
    obtain ⟨b, off, hx, hblt, hc⟩ := HV.out.2.2.2 (by omega)
    subst hx
    have hkl : k < l.length := by have := HV.out.1; omega
    have hck := (HA.out.be.cell (p := ⟨b, off + k, none⟩) hblt).trans (hc k l[k] (by simp [hkl]))
    obtain ⟨s, hs⟩ : ∃ s, l[k] = s := ⟨_, rfl⟩
    rw [hs] at hck
    have HC : Hid (∀ w', Below w.heap.size w w' → w'.cell? ⟨b, off + k, none⟩ = some (.string s)) := fun w' hb => (hb.cell (p := ⟨b, off + k, none⟩) hblt).trans (by rw [← hs]; exact hc k l[k] (by simp [hkl]))
    clear hs hc
    have IX := hide (idx9 (some ⟨w.heap.size + 1, 0, none⟩) D.length n D s wr (HA.out.ds.vs (by unfold maxLen; omega)))
    go_wp2_with fail
    refine (IX.out).mono ?_
    rintro e wr ⟨r2, rfl, rfl, hr2⟩
    rcases hr2 with ⟨j, rfl, hj⟩ | ⟨rfl, hno⟩
    · clear hj
      go_wp2
      go_roundw
      case rel => exact ⟨k + 1, F, K, D, xd, by omega, by go_num, rfl, by omega, HA.out⟩
      case measure => simp [intOf]; omega
    · have AD := hide (zzadd_any w.heap.size F K s wr HA.out.st HA.out.inv (by have := HA.out.kl; omega))
      have HNo := hide hno
      clear hno IX
      go_wp2_with fail
      refine (AD.out).mono ?_
      rintro e w2 ⟨rfl, F', hS2, hT2, hF2⟩
      have hgdl : w.heap.size + 1 < wr.heap.size := (Array.getElem?_eq_some_iff.1 HA.out.ds.1).1
      have b2 : Below w.heap.size w w2 := HA.out.be.trans (hT2.below (fun k hk e => by have := HA.out.bF k e; omega) HA.out.be.size)
      have hck2 := HC.out w2 b2
      have hgd2 : w2.heap[w.heap.size + 1]? = some (.cells xd.toArray 9 (0, 0)) := (hT2.block _ hgdl HA.out.nF).trans HA.out.ds.1
      have hxl := HA.out.ds.2.1
      have hxl2 : n = xd.length := hxl.symm
      have SC := hide hS2
      have TC := hide hT2
      have FC := hide hF2
      have GC := hide hgd2
      have XC := hide hxl2
      clear hS2 hT2 hF2 hgd2 AD hxl2 hxl hck b2
      go_wp2_with (at_builtin; refine wpList_app rfl (.tmp 38) (.tmp 43) 22 rfl 9 (.string ByteArray.empty) 16 Try.underlying22 Try.info9 rfl (w.heap.size + 1) D.length n xd rfl ((Below.heap_alloc w2 _ _ (by have := TC.out.size; omega)).trans GC.out) (by omega) XC.out (by unfold maxLen; omega) (some ⟨w2.heap.size, 0, none⟩) 1 1 [Value.string s] rfl rfl (src_one w2 s) (strs_one [s]) (by unfold maxLen; omega) (by omega) ?_; intro g1 xs1 w3 H3)
      obtain ⟨q1, q2, q3, q4, q5, q6, q7, q8⟩ := H3.out
      obtain ⟨e1, e2⟩ := q8 (by omega)
      subst e1
      have HN := hide (HA.out.next HNo.out SC.out TC.out FC.out q1 q2 e2 (by omega) q5)
      rw [e2]
      clear q1 q2 q3 q4 q5 q6 q7 q8 H3 e2 XC SC TC FC GC HA HNo HC
      go_wp2
      go_roundw
      case rel => exact ⟨k + 1, F', addK K s, D ++ [s], xs1, by omega, by go_num, by simp, by simp; omega, HN.out⟩
      case measure => simp [intOf]; omega
end Go.Proofs.Qxb6606313a
