/-
  The guards of the law and 'copyStrings', walked. Not trusted: the kernel checks it.
-/
import Derived.Test.Qxb6003646aProg
import Derived.Test.Qxb6003646aApp
namespace Go.Proofs.Qxb6003646a
open Go.RowKit Go.Deep
set_option linter.unusedVariables false

theorem Try.info9 : (Try.prog.info? 9).map (fun i => (i.zero, i.size, i.bytes)) = some (some (.string ByteArray.empty), 1, 16) := by kernel_rfl

/-- a slice of strings that can be read: its elements 'l' -/
def VS (w : World) (a : Option Addr) (n cap : Nat) (l : List ByteArray) : Prop :=
  l.length = n ∧ n ≤ cap ∧ cap ≤ maxLen ∧ (0 < n → ∃ b off, a = some ⟨b, off, none⟩ ∧ b < w.heap.size ∧ ∀ i s, l[i]? = some s → w.cell? ⟨b, off + i, none⟩ = some (.string s))

theorem VS.below {w w' : World} {a : Option Addr} {n cap : Nat} {l : List ByteArray} (h : VS w a n cap l) (hb : Below w.heap.size w w') : VS w' a n cap l := by
  obtain ⟨h1, h2, h3, h4⟩ := h
  refine ⟨h1, h2, h3, fun hn => ?_⟩
  obtain ⟨b, off, rfl, hlt, hc⟩ := h4 hn
  exact ⟨b, off, rfl, Nat.lt_of_lt_of_le hlt hb.size, fun i s hs => (hb.cell (p := ⟨b, off + i, none⟩) hlt).trans (hc i s hs)⟩

/-! ### the guards -/
def ZPost (G R : ByteArray) (A S : List ByteArray) (w : World) (e : Ending) (w' : World) : Prop :=
  ∃ b, e = .returned (.bool b) ∧ w' = w ∧ (b = true → G.size ≤ 1048576 ∧ R.size ≤ 1048576 ∧ (∀ s ∈ A, s.size ≤ 1048576) ∧ (∀ s ∈ S, s.size ≤ 1048576))
theorem ZPost.no {G R : ByteArray} {A S : List ByteArray} {w : World} {e : Ending} (h : e = .returned (.bool false)) : ZPost G R A S w e w := ⟨false, h, rfl, by simp⟩
set_option maxHeartbeats 1000000 in
theorem zz_any (G R : ByteArray) (aA : Option Addr) (nA cA : Nat) (A : List ByteArray) (aS : Option Addr) (nS cS : Nat) (S : List ByteArray) (p : Int) (w : World) (hG : G.size ≤ maxLen) (hR : R.size ≤ maxLen)
    (hA : VS w aA nA cA A) (hS : VS w aS nS cS S) (hA2 : ∀ s ∈ A, s.size ≤ maxLen) (hS2 : ∀ s ∈ S, s.size ≤ maxLen) :
    Calls Try.prog 22 #[.string G, .string R, .slice aA nA cA, .slice aS nS cS, .int .i64 p] w (ZPost G R A S w) := by
  obtain ⟨a1, a2, a3, a4⟩ := hA
  obtain ⟨s1, s2, s3, s4⟩ := hS
  unfold maxLen at hG hR a3 s3
  by_cases hg : G.size ≤ 1048576
  case neg =>
    go_enter Try.func22, Try.ntmps22
    go_wp2
    go_ret
    exact ZPost.no rfl
  by_cases hr : R.size ≤ 1048576
  case neg =>
    go_enter Try.func22, Try.ntmps22
    go_wp2
    go_ret
    exact ZPost.no rfl
  by_cases hgr : G.size + R.size ≤ 1048576
  case neg =>
    go_enter Try.func22, Try.ntmps22
    go_wp2
    go_ret
    exact ZPost.no rfl
  by_cases ha : nA ≤ 1048576
  case neg =>
    go_enter Try.func22, Try.ntmps22
    go_wp2
    go_ret
    exact ZPost.no rfl
  by_cases hga : G.size + R.size + nA ≤ 1048576
  case neg =>
    go_enter Try.func22, Try.ntmps22
    go_wp2
    go_ret
    exact ZPost.no rfl
  go_enter Try.func22, Try.ntmps22
  go_wp2
  go_loop [11, 12] (fun t i => ∃ k T : Nat, k ≤ nA ∧ i = .int .i64 k ∧ t = .int .i64 T ∧ T ≤ 1048576 ∧ ∀ s ∈ A.take k, s.size ≤ 1048576) (fun _ i => nA - (intOf i).toNat)
  case atStart => exact ⟨0, G.size + R.size + nA, Nat.zero_le _, rfl, by go_num, hga, by simp⟩
  case round =>
    obtain ⟨k, T, hk, rfl, rfl, hT, hall⟩ := hrel
    by_cases hlt : k < nA
    · obtain ⟨b, off, rfl, hblt, hc⟩ := a4 (by omega)
      have hkA : k < A.length := by omega
      have hck := hc k A[k] (by simp [hkA])
      have hsz := hA2 A[k] (by simp)
      unfold maxLen at hsz
      have HA : Hid (A.take (k + 1) = A.take k ++ [A[k]]) := List.take_succ_eq_append_getElem hkA
      obtain ⟨s, hs⟩ : ∃ s, A[k] = s := ⟨_, rfl⟩
      rw [hs] at hck hsz HA
      have HS := hide hs
      have H1 := hide hall
      have H2 := hide hA2
      have H3 := hide hS2
      clear hs hall hA2 hS2 hc a4
      by_cases hs1 : s.size ≤ 1048576
      · by_cases hs2 : T + s.size ≤ 1048576
        · go_wp2
          go_round
          case rel => exact ⟨k + 1, T + s.size, by omega, by go_num, by go_num, hs2, by rw [HA.out]; intro x hx; rcases List.mem_append.1 hx with hx | hx; exact H1.out x hx; simp at hx; subst hx; exact hs1⟩
          case measure => simp [intOf]; omega
        · go_wp2
          go_ret
          exact ZPost.no rfl
      · go_wp2
        go_ret
        exact ZPost.no rfl
    · obtain rfl : nA = k := by omega
      have HA : Hid (∀ s ∈ A, s.size ≤ 1048576) := by
        intro x hx
        exact hall x (by rw [List.take_of_length_le (by omega)]; exact hx)
      have H3 := hide hS2
      clear hall hA2 hS2 a4 hlt hk
      by_cases hs : nS ≤ 1048576
      case neg =>
        go_wp2
        go_ret
        exact ZPost.no rfl
      by_cases hgs : T + nS ≤ 1048576
      case neg =>
        go_wp2
        go_ret
        exact ZPost.no rfl
      go_wp2
      go_loop [11, 13] (fun t i => ∃ k T : Nat, k ≤ nS ∧ i = .int .i64 k ∧ t = .int .i64 T ∧ T ≤ 1048576 ∧ ∀ s ∈ S.take k, s.size ≤ 1048576) (fun _ i => nS - (intOf i).toNat)
      case atStart => exact ⟨0, T + nS, Nat.zero_le _, rfl, by go_num, hgs, by simp⟩
      case round =>
        obtain ⟨k, T2, hk, rfl, rfl, hT2, hall⟩ := hrel
        by_cases hlt : k < nS
        · obtain ⟨b, off, rfl, hblt, hc⟩ := s4 (by omega)
          have hkA : k < S.length := by omega
          have hck := hc k S[k] (by simp [hkA])
          have hsz := H3.out S[k] (by simp)
          unfold maxLen at hsz
          have HS : Hid (S.take (k + 1) = S.take k ++ [S[k]]) := List.take_succ_eq_append_getElem hkA
          obtain ⟨s, hs⟩ : ∃ s, S[k] = s := ⟨_, rfl⟩
          rw [hs] at hck hsz HS
          have H1 := hide hall
          clear hs hall hc s4
          by_cases hs1 : s.size ≤ 1048576
          · by_cases hs2 : T2 + s.size ≤ 1048576
            · go_wp2
              go_round
              case rel => exact ⟨k + 1, T2 + s.size, by omega, by go_num, by go_num, hs2, by rw [HS.out]; intro x hx; rcases List.mem_append.1 hx with hx | hx; exact H1.out x hx; simp at hx; subst hx; exact hs1⟩
              case measure => simp [intOf]; omega
            · go_wp2
              go_ret
              exact ZPost.no rfl
          · go_wp2
            go_ret
            exact ZPost.no rfl
        · obtain rfl : nS = k := by omega
          have HS : Hid (∀ s ∈ S, s.size ≤ 1048576) := by
            intro x hx
            exact hall x (by rw [List.take_of_length_le (by omega)]; exact hx)
          clear hall s4
          go_wp2
          go_ret
          exact ⟨true, rfl, rfl, fun _ => ⟨hg, hr, HA.out, HS.out⟩⟩

def GPost (nA nS : Nat) (w : World) (e : Ending) (w' : World) : Prop := ∃ b, e = .returned (.bool b) ∧ w' = w ∧ (b = true → nA ≤ 4096 ∧ nS ≤ 4096)
theorem GPost.no {nA nS : Nat} {w : World} {e : Ending} (h : e = .returned (.bool false)) : GPost nA nS w e w := ⟨false, h, rfl, by simp⟩
theorem GPost.yes {nA nS : Nat} {w : World} {e : Ending} (h : e = .returned (.bool true)) (hA : nA ≤ 4096) (hS : nS ≤ 4096) : GPost nA nS w e w := ⟨true, h, rfl, fun _ => ⟨hA, hS⟩⟩

set_option maxHeartbeats 2000000 in
set_option maxRecDepth 100000 in
theorem guard_any (G R : ByteArray) (aA : Option Addr) (nA cA : Nat) (A : List ByteArray) (aS : Option Addr) (nS cS : Nat) (S : List ByteArray) (w : World) (hG : G.size ≤ 1048576) (hR : R.size ≤ 1048576)
    (hA : VS w aA nA cA A) (hS : VS w aS nS cS S) (hA2 : ∀ s ∈ A, s.size ≤ 1048576) (hS2 : ∀ s ∈ S, s.size ≤ 1048576) :
    Calls Try.prog 18 #[.string G, .string R, .slice aA nA cA, .slice aS nS cS] w (GPost nA nS w) := by
  obtain ⟨a1, a2, a3, a4⟩ := hA
  obtain ⟨s1, s2, s3, s4⟩ := hS
  unfold maxLen at a3 s3
  have d1 : decide ((1048576 : Int) < (G.size : Int)) = false := by simp; omega
  have d2 : decide ((1048576 : Int) < (R.size : Int)) = false := by simp; omega
  by_cases hnA : nA ≤ 4096
  case neg =>
    go_enter Try.func18, Try.ntmps18
    go_wp2
    go_ret
    exact GPost.no rfl
  have d3 : decide ((4096 : Int) < (nA : Int)) = false := by simp; omega
  by_cases hnS : nS ≤ 4096
  case neg =>
    go_enter Try.func18, Try.ntmps18
    go_wp2
    go_ret
    exact GPost.no rfl
  have d4 : decide ((4096 : Int) < (nS : Int)) = false := by simp; omega
  by_cases hgr : G.size + R.size ≤ 1048576
  case neg =>
    go_enter Try.func18, Try.ntmps18
    go_wp2
    go_ret
    exact GPost.no rfl
  have HA := hide hA2
  have HS := hide hS2
  clear hA2 hS2
  go_enter Try.func18, Try.ntmps18
  go_wp2
  clear d1 d2 d3 d4
  go_loop [9, 10, 11] (fun t bb i => ∃ k T B : Nat, k ≤ nA ∧ i = .int .i64 k ∧ t = .int .i64 T ∧ T ≤ 1048576 ∧ bb = .int .i64 B ∧ B ≤ T) (fun _ _ i => nA - (intOf i).toNat)
  case atStart => exact ⟨0, G.size + R.size, G.size + R.size, Nat.zero_le _, rfl, by go_num, hgr, by go_num, Nat.le_refl _⟩
  case round =>
    obtain ⟨k, T, B, hk, rfl, rfl, hT, rfl, hB⟩ := hrel
    by_cases hlt : k < nA
    · obtain ⟨b, off, rfl, hblt, hc⟩ := a4 (by omega)
      have hkA : k < A.length := by omega
      have hck := hc k A[k] (by simp [hkA])
      have hsz := HA.out A[k] (by simp)
      obtain ⟨s, hs⟩ : ∃ s, A[k] = s := ⟨_, rfl⟩
      rw [hs] at hck hsz
      clear hs hc a4
      by_cases hs2 : T + s.size ≤ 1048560
      · have dt : decide ((1048576 : Int) < (T : Int) + ((s.size : Int) + 16)) = false := by simp; omega
        go_wp2
        go_round
        case rel => exact ⟨k + 1, T + s.size + 16, B + s.size, by omega, by go_num, by go_num, by omega, by go_num, by omega⟩
        case measure => simp [intOf]; omega
      · have dt : decide ((1048576 : Int) < (T : Int) + ((s.size : Int) + 16)) = true := by simp; omega
        go_wp2
        go_ret
        exact GPost.no rfl
    · obtain rfl : nA = k := by omega
      clear a4 hlt hk
      go_wp2
      go_loop [9, 12, 13] (fun t bb i => ∃ k T B : Nat, k ≤ nS ∧ i = .int .i64 k ∧ t = .int .i64 T ∧ T ≤ 1048576 ∧ bb = .int .i64 B ∧ B ≤ T) (fun _ _ i => nS - (intOf i).toNat)
      case atStart => exact ⟨0, T, 0, Nat.zero_le _, rfl, by go_num, hT, by go_num, by omega⟩
      case round =>
        obtain ⟨k, T2, B2, hk, rfl, rfl, hT2, rfl, hB2⟩ := hrel
        by_cases hlt : k < nS
        · obtain ⟨b, off, rfl, hblt, hc⟩ := s4 (by omega)
          have hkA : k < S.length := by omega
          have hck := hc k S[k] (by simp [hkA])
          have hsz := HS.out S[k] (by simp)
          obtain ⟨s, hs⟩ : ∃ s, S[k] = s := ⟨_, rfl⟩
          rw [hs] at hck hsz
          clear hs hc s4
          by_cases hs2 : T2 + s.size ≤ 1048560
          · have dt : decide ((1048576 : Int) < (T2 : Int) + ((s.size : Int) + 16)) = false := by simp; omega
            go_wp2
            go_round
            case rel => exact ⟨k + 1, T2 + s.size + 16, B2 + s.size, by omega, by go_num, by go_num, by omega, by go_num, by omega⟩
            case measure => simp [intOf]; omega
          · have dt : decide ((1048576 : Int) < (T2 : Int) + ((s.size : Int) + 16)) = true := by simp; omega
            go_wp2
            go_ret
            exact GPost.no rfl
        · obtain rfl : nS = k := by omega
          clear s4 hlt hk
          go_wp2
          all_goals go_ret
          all_goals first | exact GPost.no rfl | exact GPost.yes rfl hnA hnS

/-! ### the copy -/
def CPost (n : Nat) (l : List ByteArray) (w : World) (e : Ending) (w' : World) : Prop :=
  ∃ a c, e = .returned (.slice a n c) ∧ c = n ∧ VS w' a n c l ∧ Below w.heap.size w w' ∧ (a = none → n = 0) ∧ ∀ x, a = some x → x = ⟨w.heap.size, 0, none⟩

set_option maxHeartbeats 1000000 in
theorem copy_any (a : Option Addr) (n cap : Nat) (l : List ByteArray) (w : World) (hv : VS w a n cap l) (hn : n ≤ 4096) :
    Calls Try.prog 19 #[.slice a n cap] w (CPost n l w) := by
  obtain ⟨v1, v2, v3, v4⟩ := hv
  unfold maxLen at v3
  cases a with
  | none =>
    have h0 : n = 0 := by
      rcases Nat.eq_zero_or_pos n with h | h
      · exact h
      · obtain ⟨b, off, hh, _⟩ := v4 h; cases hh
    subst h0
    have hnil := fun w : World => Lib.run_eql_slice_nil (P := Try.prog) w 29 9 none 0 cap 0 0 Try.underlying29
    clear v4
    go_enter Try.func19, Try.ntmps19
    go_wp2
    go_ret
    exact ⟨none, 0, rfl, rfl, ⟨v1, Nat.le_refl _, Nat.zero_le _, fun h => absurd h (by omega)⟩, Below.refl _ _, fun _ => rfl, fun x hx => by cases hx⟩
  | some x =>
    have hnil := fun w : World => Lib.run_eql_slice_nil (P := Try.prog) w 29 9 (some x) n cap 0 0 Try.underlying29
    have hmk := run_make_row' (P := Try.prog) 29 9 (.string ByteArray.empty) 16 Try.underlying29 Try.info9 rfl .i64 .i64 n (by omega) (by omega)
    have R0 := hide (World.rowIs_made w (.string ByteArray.empty) n 9)
    go_enter Try.func19, Try.ntmps19
    go_wp2
    clear hnil hmk
    go_loopw [4] (fun i wr => ∃ k : Nat, k ≤ n ∧ i = .int .i64 k ∧ wr.rowIs w.heap.size 9 n (fun j => if j < k then .string (l.getD j ByteArray.empty) else .string ByteArray.empty) ∧ Below w.heap.size w wr) (fun i _ => n - (intOf i).toNat)
    case atStart => exact ⟨0, Nat.zero_le _, rfl, R0.out.congr (fun j _ => by simp), (Below.refl _ _).alloc (Nat.le_refl _) _⟩
    case round =>
      clear R0
      obtain ⟨k, hk, rfl, R, B⟩ := hrel
      by_cases hlt : k < n
      · obtain ⟨b, off, hx, hblt, hc⟩ := v4 (by omega)
        simp only [Option.some.injEq] at hx
        subst hx
        have hkA : k < l.length := by omega
        have hck := (B.cell (p := ⟨b, off + k, none⟩) hblt).trans (hc k l[k] (by simp [hkA]))
        have e1 : l.getD k ByteArray.empty = l[k] := by simp [List.getD_eq_getElem?_getD, hkA]
        obtain ⟨s, hs⟩ : ∃ s, l[k] = s := ⟨_, rfl⟩
        rw [hs] at hck e1
        have g1 := R.frozen k
        have g2 : wr.cell? ⟨w.heap.size, k, none⟩ = some (.string ByteArray.empty) := by simpa using R.cell hlt
        have N1 := hide ((R.set k (.string s)).congr (g := fun j => if j < k + 1 then .string (l.getD j ByteArray.empty) else .string ByteArray.empty) (by
          intro j hj
          show (if j = k then _ else _) = if j < k + 1 then _ else _
          by_cases e : j = k
          · subst e; rw [if_pos rfl, if_pos (by omega), e1]
          · rw [if_neg e]
            by_cases e2 : j < k
            · rw [if_pos e2, if_pos (by omega)]
            · rw [if_neg e2, if_neg (by omega)]))
        have N2 := hide (B.setCell (p := ⟨w.heap.size, k, none⟩) (by simp) (.string s))
        clear R B hs e1 hc v4
        go_wp2
        go_roundw
        case rel => exact ⟨k + 1, by omega, by go_num, N1.out, N2.out⟩
        case measure => simp [intOf]; omega
      · obtain rfl : n = k := by omega
        have N1 := hide R
        have N2 := hide B
        clear R B v4
        go_wp2
        go_ret
        refine ⟨some ⟨w.heap.size, 0, none⟩, n, rfl, rfl, ⟨v1, Nat.le_refl _, by unfold maxLen; omega, fun _ => ⟨w.heap.size, 0, rfl, N1.out.lt, fun i s hs => ?_⟩⟩, N2.out, (fun h => by cases h), (fun x hx => by cases hx; rfl)⟩
        have hi : i < n := by have := (List.getElem?_eq_some_iff.1 hs).1; omega
        have := N1.out.cell hi
        rw [Nat.zero_add, this, if_pos hi, List.getD_eq_getElem?_getD, hs]
        rfl
end Go.Proofs.Qxb6003646a
