/-
  The law 'FnReplicaNamesSubdomainsSplitAtAnyCut' (function 8), walked over the callees' contracts. Not trusted: the kernel checks it.
-/
import Derived.Test.Qxb6003646aNames
namespace Go.Proofs.Qxb6003646a
open Go.RowKit Go.Deep
set_option linter.unusedVariables false

theorem VS.take {w : World} {a : Option Addr} {n cap : Nat} {l : List ByteArray} (h : VS w a n cap l) (c : Nat) (hc : c ≤ n) : VS w a c cap (l.take c) := by
  obtain ⟨h1, h2, h3, h4⟩ := h
  refine ⟨by simp; omega, by omega, h3, fun hn => ?_⟩
  obtain ⟨b, off, rfl, hlt, hh⟩ := h4 (by omega)
  refine ⟨b, off, rfl, hlt, fun i s hs => hh i s ?_⟩
  rw [List.getElem?_take] at hs
  split at hs
  · exact hs
  · cases hs
theorem VS.drop {w : World} {b off : Nat} {n cap : Nat} {l : List ByteArray} (h : VS w (some ⟨b, off, none⟩) n cap l) (c : Nat) (hc : c ≤ n) : VS w (some ⟨b, off + c, none⟩) (n - c) (cap - c) (l.drop c) := by
  obtain ⟨h1, h2, h3, h4⟩ := h
  refine ⟨by simp; omega, by omega, by omega, fun hn => ?_⟩
  obtain ⟨b', off', hx, hlt, hh⟩ := h4 (by omega)
  cases hx
  refine ⟨b, off + c, rfl, hlt, fun i s hs => ?_⟩
  rw [List.getElem?_drop] at hs
  rw [Nat.add_assoc]
  exact hh (c + i) s hs
theorem VS.none (w : World) (a : Option Addr) (cap : Nat) (hc : cap ≤ maxLen) : VS w a 0 cap [] := ⟨rfl, Nat.zero_le _, hc, fun h => absurd h (by omega)⟩
theorem VS.zero {w : World} {a : Option Addr} {cap : Nat} {l : List ByteArray} (h : VS w a 0 cap l) : l = [] := List.eq_nil_of_length_eq_zero h.1

structure CutFacts (nA : Nat) (B LW LL LR : List ByteArray) : Prop where
  left : ∀ i : Nat, i < LL.length → LW[i]? = LL[i]?
  right : ∀ i : Nat, nA + 2 ≤ i → LW[LL.length + i - (nA + 2)]? = LR[i]?
  len : LW.length + (nA + 2) = LL.length + LR.length
  bl : ∀ (j : Nat) (t : ByteArray), B[j]? = some t → LL[j]? = some t
  br : ∀ (j : Nat) (t : ByteArray), B[j]? = some t → LR[j]? = some t
  gl : nA + 2 ≤ LL.length
  gr : nA + 2 ≤ LR.length
  ll : LL.length ≤ 4098 * 4097
  lr : LR.length ≤ 4098 * 4097

theorem cut_facts (G R : ByteArray) (A S : List ByteArray) (nA c : Nat) (hA : A.length = nA) (hnA : nA ≤ 4096) (hnS : S.length ≤ 4096) : CutFacts nA (base G R A) (names G R A S) (names G R A (S.take c)) (names G R A (S.drop c)) := by
  subst hA
  have h1 := len_names G R A (S.take c)
  have h2 := len_names G R A (S.drop c)
  exact ⟨cut_left G R A S c, cut_right G R A S c, cut_len G R A S c, names_base G R A _, names_base G R A _, by rw [h1]; exact Nat.le_mul_of_pos_right _ (by omega), by rw [h2]; exact Nat.le_mul_of_pos_right _ (by omega),
    by rw [h1]; exact Nat.mul_le_mul (by omega) (by simp; omega), by rw [h2]; exact Nat.mul_le_mul (by omega) (by simp; omega)⟩

set_option maxHeartbeats 4000000 in
theorem walk (G R : ByteArray) (aA : Option Addr) (nA cA : Nat) (A : List ByteArray) (aS : Option Addr) (nS cS : Nat) (S : List ByteArray) (p : Int) (w : World) (hG : G.size ≤ maxLen) (hR : R.size ≤ maxLen)
    (hA : VS w aA nA cA A) (hS : VS w aS nS cS S) (hA2 : ∀ s ∈ A, s.size ≤ maxLen) (hS2 : ∀ s ∈ S, s.size ≤ maxLen) :
    Calls Try.prog 8 #[.string G, .string R, .slice aA nA cA, .slice aS nS cS, .int .i64 p] w fun e w' => e = .returned (.bool true) ∧ Below w.heap.size w w' := by
  have Z := hide (zz_any G R aA nA cA A aS nS cS S p w hG hR hA hS hA2 hS2)
  have HA := hide hA
  have HS := hide hS
  clear hA hS hA2 hS2 hG hR
  go_enter Try.func8, Try.ntmps8
  go_wp2_with fail
  refine (Z.out).mono ?_
  rintro e w ⟨b, rfl, rfl, hb⟩
  cases b
  case false =>
    go_wp2
    go_ret
    exact ⟨rfl, Below.refl _ _⟩
  obtain ⟨hG, hR, hA2, hS2⟩ := hb rfl
  have HA2 := hide hA2
  have HS2 := hide hS2
  have Gd := hide (guard_any G R aA nA cA A aS nS cS S w hG hR HA.out HS.out hA2 hS2)
  clear hb hA2 hS2 Z
  go_wp2_with fail
  refine (Gd.out).mono ?_
  rintro e w ⟨b, rfl, rfl, hb⟩
  cases b
  case false =>
    go_wp2
    go_ret
    exact ⟨rfl, Below.refl _ _⟩
  obtain ⟨hnA, hnS⟩ := hb rfl
  clear hb Gd
  by_cases h1 : p < 0
  · go_wp2
    go_ret
    exact ⟨rfl, Below.refl _ _⟩
  have h1' : decide (p < 0) = false := by simpa using h1
  by_cases h2 : (nS : Int) < p
  · go_wp2
    go_ret
    exact ⟨rfl, Below.refl _ _⟩
  have h2' : decide ((nS : Int) < p) = false := by simpa using h2
  obtain ⟨c, rfl⟩ := Int.eq_ofNat_of_zero_le (show 0 ≤ p from by omega)
  have hcn : c ≤ nS := by omega
  have C1 := hide (copy_any aA nA cA A w HA.out hnA)
  go_wp2_with fail
  refine (C1.out).mono ?_
  rintro e w1 ⟨a1, c1, rfl, hc1, V1, B1, -, -⟩
  obtain rfl : nA = c1 := hc1.symm
  clear hc1
  have C2 := hide (copy_any aS nS cS S w1 (HS.out.below B1) hnS)
  have HV1 := hide V1
  have HB1 := hide B1
  clear V1 B1 C1 h1 h2
  go_wp2_with fail
  refine (C2.out).mono ?_
  rintro e w2 ⟨a2, c2, rfl, hc2, V2, B2, N2, X2⟩
  obtain rfl : nS = c2 := hc2.symm
  clear hc2
  have V1 := hide (HV1.out.below B2)
  have BB := hide (HB1.out.trans (B2.mono HB1.out.size))
  have W0 := hide (zznames_any G R a1 nA nA A a2 nS nS S w2 hG hR V1.out V2 HA2.out HS2.out hnA hnS)
  have HV2 := hide V2
  have HN2 := hide N2
  have HX2 := hide X2
  clear V2 B2 N2 X2 C2 HV1 HB1 HA HS
  go_wp2_with fail
  refine (W0.out).mono ?_
  rintro e w3 ⟨gW, xW, rfl, OW, B3⟩
  -- the left part
  have V1' := hide (V1.out.below B3)
  have V2' := hide (HV2.out.below B3)
  have hS3 : Hid (∀ s ∈ S.take c, s.size ≤ 1048576) := fun s hs => HS2.out s (List.mem_of_mem_take hs)
  have hS4 : Hid (∀ s ∈ S.drop c, s.size ≤ 1048576) := fun s hs => HS2.out s (List.mem_of_mem_drop hs)
  have L0 := hide (zznames_any G R a1 nA nA A a2 c nS (S.take c) w3 hG hR V1'.out (V2'.out.take c hcn) HA2.out hS3.out hnA (by omega))
  have HOW := hide OW
  have HB3 := hide B3
  clear OW B3 W0
  have CF := hide (cut_facts G R A S nA c V1.out.1 hnA (by rw [HV2.out.1]; exact hnS))
  obtain ⟨LW, hLW⟩ : ∃ LW, names G R A S = LW := ⟨_, rfl⟩
  obtain ⟨LL, hLL⟩ : ∃ LL, names G R A (S.take c) = LL := ⟨_, rfl⟩
  obtain ⟨LR, hLR⟩ : ∃ LR, names G R A (S.drop c) = LR := ⟨_, rfl⟩
  rw [hLW] at HOW CF ⊢
  rw [hLL] at L0 CF
  have HLR := hide hLR
  rw [hLR] at CF
  clear hLW hLL hLR
  rcases (show (a2 = none ∧ nS = 0 ∧ c = 0) ∨ (a2 = some ⟨w1.heap.size, 0, none⟩ ∧ c = nS) ∨ (a2 = some ⟨w1.heap.size, 0, none⟩ ∧ c < nS) from by
    cases a2 with
    | none => exact .inl ⟨rfl, HN2.out rfl, by have := HN2.out rfl; omega⟩
    | some x => rw [HX2.out x rfl]; rcases Nat.lt_or_ge c nS with h | h; exact .inr (.inr ⟨rfl, h⟩); exact .inr (.inl ⟨rfl, by omega⟩)) with ⟨rfl, rfl, rfl⟩ | ⟨rfl, rfl⟩ | ⟨rfl, hlt⟩
  case' inl =>
    go_wp2_with fail
    refine (L0.out).mono ?_
    rintro e w4 ⟨gL, xL, rfl, OL, B4⟩
    have R0 := hide (zznames_any G R a1 nA nA A none 0 0 (S.drop 0) w4 hG hR (V1'.out.below B4) (by rw [HV2.out.zero]; exact VS.none _ _ _ (Nat.zero_le _)) HA2.out hS4.out hnA (by omega))
    have HOL := hide OL
    have HB4 := hide B4
    clear OL B4 L0
    go_wp2_with fail
    refine (R0.out).mono ?_
    rintro e w5 ⟨gR, xR, rfl, OR, B5⟩
    rw [HLR.out] at OR ⊢
  case' inr.inl =>
    go_wp2_with fail
    refine (L0.out).mono ?_
    rintro e w4 ⟨gL, xL, rfl, OL, B4⟩
    have R0 := hide (zznames_any G R a1 nA nA A (some ⟨w1.heap.size, 0, none⟩) 0 0 (S.drop c) w4 hG hR (V1'.out.below B4) (by rw [show S.drop c = [] from List.drop_eq_nil_of_le (by rw [HV2.out.1]; exact Nat.le_refl _)]; exact VS.none _ _ _ (Nat.zero_le _)) HA2.out hS4.out hnA (by omega))
    have HOL := hide OL
    have HB4 := hide B4
    clear OL B4 L0
    go_wp2_with fail
    refine (R0.out).mono ?_
    rintro e w5 ⟨gR, xR, rfl, OR, B5⟩
    rw [HLR.out] at OR ⊢
  case' inr.inr =>
    go_wp2_with fail
    refine (L0.out).mono ?_
    rintro e w4 ⟨gL, xL, rfl, OL, B4⟩
    have R0 := hide (zznames_any G R a1 nA nA A (some ⟨w1.heap.size, c, none⟩) (nS - c) (nS - c) (S.drop c) w4 hG hR (V1'.out.below B4) (by simpa using (V2'.out.drop c hcn).below B4) HA2.out hS4.out hnA (by omega))
    have HOL := hide OL
    have HB4 := hide B4
    clear OL B4 L0
    go_wp2_with fail
    refine (R0.out).mono ?_
    rintro e w5 ⟨gR, xR, rfl, OR, B5⟩
    rw [HLR.out] at OR ⊢
  all_goals
    have hsz3 := HB3.out.size
    have hsz4 := HB4.out.size
    have hgW : gW < w3.heap.size := (Array.getElem?_eq_some_iff.1 HOW.out.2.1).1
    have hgL : gL < w4.heap.size := (Array.getElem?_eq_some_iff.1 HOL.out.2.1).1
    have cW : Hid (∀ i s, LW[i]? = some s → w5.cell? ⟨gW, i, none⟩ = some (.string s)) := fun i s hs =>
      (B5.cell (p := ⟨gW, i, none⟩) (show gW < w4.heap.size by omega)).trans ((HB4.out.cell (p := ⟨gW, i, none⟩) hgW).trans (own_cell HOW.out i s hs))
    have cL : Hid (∀ i s, LL[i]? = some s → w5.cell? ⟨gL, i, none⟩ = some (.string s)) := fun i s hs =>
      (B5.cell (p := ⟨gL, i, none⟩) hgL).trans (own_cell HOL.out i s hs)
    have cR : Hid (∀ i s, LR[i]? = some s → w5.cell? ⟨gR, i, none⟩ = some (.string s)) := fun i s hs => own_cell OR i s hs
    have VA := hide ((V1'.out.below HB4.out).below B5)
    have BF := hide (BB.out.trans ((HB3.out.mono BB.out.size).trans ((HB4.out.mono (Nat.le_trans BB.out.size hsz3)).trans (B5.mono (Nat.le_trans BB.out.size (Nat.le_trans hsz3 hsz4))))))
    have xW1 := HOW.out.2.2.2.1
    have xL1 := HOL.out.2.2.2.1
    have xL2 := HOL.out.2.2.2.2
    have xR1 := OR.2.2.2.1
    have xR2 := OR.2.2.2.2
    unfold maxLen at xL2 xR2
    have f1 := CF.out.len
    have f2 := CF.out.gl
    have f3 := CF.out.gr
    have f4 := CF.out.ll
    have f5 := CF.out.lr
    have IL := hide (isBase_any G R a1 nA nA A gL xL.length w5 VA.out hnA (by omega) (by unfold maxLen; omega) (fun j t ht => cL.out j t (CF.out.bl j t ht)))
    have IR := hide (fun k => isBase_any G R a1 nA nA A gR xR.length (w5.drewN k) (VA.out.below ⟨rfl, rfl, rfl, Nat.le_refl _, fun _ _ => rfl⟩) hnA (by omega) (by unfold maxLen; omega) (fun j t ht => cR.out j t (CF.out.br j t ht)))
    clear OR B5 HOW HOL HB3 HB4 V1 V2' V1' HV2 hS3 hS4 R0 VA BB HA2 HS2 HN2 HX2 hgW hgL hsz3 hsz4 HLR
    go_wp2_with fail
    refine (IL.out).mono ?_
    rintro e w6 ⟨rfl, k1, rfl⟩
    go_wp2_with fail
    refine (IR.out k1).mono ?_
    rintro e w6 ⟨rfl, k2, rfl⟩
    have h3 : (((LW.length : Nat) : Int) != (LL.length : Int) + (LR.length : Int) - ((nA : Int) + 2)) = false := by simp; omega
    clear IL IR
    go_wp2
    go_loopw [15] (fun i wr => ∃ k d : Nat, k ≤ LL.length ∧ i = .int .i64 k ∧ wr = w5.drewN d) (fun i _ => LL.length - (intOf i).toNat)
    case atStart => exact ⟨0, _, Nat.zero_le _, rfl, rfl⟩
    case round =>
      obtain ⟨k, d, hk, rfl, hw⟩ := hrel
      subst hw
      by_cases hkl : k < LL.length
      · have d1 := cL.out k LL[k] (by simp [hkl])
        have d2 := cW.out k LL[k] (by rw [CF.out.left k hkl]; simp [hkl])
        obtain ⟨t, ht⟩ : ∃ t, LL[k] = t := ⟨_, rfl⟩
        rw [ht] at d1 d2
        clear ht
        have l1 : (k : Int) < (LL.length : Int) := by omega
        have l2 : (k : Int) < (LW.length : Int) := by omega
        go_wp2
        go_region
        all_goals go_wp2
        all_goals (
          go_roundw
          case rel => exact ⟨k + 1, d + 1, by omega, by go_num, rfl⟩
          case measure => simp [intOf]; omega)
      · obtain rfl : k = LL.length := by omega
        clear hkl hk
        go_wp2
        go_loopw [16] (fun i wr => ∃ k d : Nat, nA + 2 ≤ k ∧ k ≤ LR.length ∧ i = .int .i64 k ∧ wr = w5.drewN d) (fun i _ => LR.length - (intOf i).toNat)
        case atStart => exact ⟨nA + 2, d, Nat.le_refl _, f3, by go_num, rfl⟩
        case round =>
          obtain ⟨k, d, hk0, hk, rfl, hw⟩ := hrel
          subst hw
          by_cases hkl : k < LR.length
          · have d1 := cR.out k LR[k] (by simp [hkl])
            have d2 := cW.out (LL.length + k - (nA + 2)) LR[k] (by rw [CF.out.right k hk0]; simp [hkl])
            obtain ⟨t, ht⟩ : ∃ t, LR[k] = t := ⟨_, rfl⟩
            rw [ht] at d1 d2
            clear ht
            have l1 : (k : Int) < (LR.length : Int) := by omega
            have l2 : (LL.length : Int) + (k : Int) - ((nA : Int) + 2) < (LW.length : Int) := by omega
            have l3 : 0 ≤ (LL.length : Int) + (k : Int) - ((nA : Int) + 2) := by omega
            have l4 : ((LL.length : Int) + (k : Int) - ((nA : Int) + 2)).toNat = LL.length + k - (nA + 2) := by omega
            go_wp2
            go_region
            all_goals go_wp2
            all_goals (
              go_roundw
              case rel => exact ⟨k + 1, d + 1, by omega, by omega, by go_num, rfl⟩
              case measure => simp [intOf]; omega)
          · go_wp2
            go_ret
            exact ⟨rfl, BF.out.trans ⟨rfl, rfl, rfl, Nat.le_refl _, fun _ _ => rfl⟩⟩
end Go.Proofs.Qxb6003646a
