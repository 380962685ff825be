/-
  The library's comparisons and binary searches on this road, walked. Not trusted: the kernel checks it.
-/
import Derived.Test.Qxb6606313aProg
import Derived.Test.Qxb6606313aApp
import Derived.Test.Qxb6606313aPlain
import Derived.Lib.Bytealg
import Derived.Deep.Draws
import Derived.Lib.Strings
namespace Go.Proofs.Qxb6606313a
open Go.RowKit Go.Deep
set_option linter.unusedVariables false


set_option maxHeartbeats 400000 in
theorem nan1 (x : ByteArray) (w : World) : Calls Try.prog 47 #[.string x] w fun e w' => e = .returned (.bool false) ∧ w' = w := by
  go_enter Try.func47, Try.ntmps47
  go_wp2
  go_ret
  exact ⟨by simp, rfl⟩
set_option maxHeartbeats 400000 in
theorem nan2 (x : ByteArray) (w : World) : Calls Try.prog 41 #[.string x] w fun e w' => e = .returned (.bool false) ∧ w' = w := by
  go_enter Try.func41, Try.ntmps41
  go_wp2
  go_ret
  exact ⟨by simp, rfl⟩
set_option maxHeartbeats 400000 in
theorem less_any (x y : ByteArray) (w : World) : Calls Try.prog 40 #[.string x, .string y] w fun e w' => e = .returned (.bool (lts x y)) ∧ w' = w := by
  go_enter Try.func40, Try.ntmps40
  go_wp2_with (go_at_call 47; refine (nan1 _ _).mono ?_; rintro e w' ⟨rfl, rfl⟩)
  go_ret
  exact ⟨rfl, rfl⟩


theorem run46 (x y : ByteArray) (w : World) : (callFunc 46 #[.string x, .string y]).run Try.prog w = .ok (.value (.int .i64 (cmpv x y))) w := by
  rw [run_callFunc_extern Try.func46 (by kernel_rfl) (by kernel_rfl) (by kernel_rfl) (e := Extern.BytealgCompare.compare) (by kernel_rfl), Lib.run_compareString]
  rfl

set_option maxHeartbeats 400000 in
theorem cmp39 (x y : ByteArray) (w : World) : Calls Try.prog 39 #[.string x, .string y] w fun e w' => e = .returned (.int .i64 (cmpv x y)) ∧ w' = w := by
  have hx := run46 x y
  go_enter Try.func39, Try.ntmps39
  go_wp2
  go_ret
  exact ⟨rfl, rfl⟩
set_option maxHeartbeats 400000 in
theorem cmp31 (x y : ByteArray) (w : World) : Calls Try.prog 31 #[.string x, .string y] w fun e w' => e = .returned (.int .i64 (cmpv x y)) ∧ w' = w := by
  go_enter Try.func31, Try.ntmps31
  go_wp2_with (go_at_call 39; refine (cmp39 _ _ _).mono ?_; rintro e w' ⟨rfl, rfl⟩)
  go_ret
  exact ⟨rfl, rfl⟩
set_option maxHeartbeats 400000 in
/-- the closure of 'find': the block's last key against the key -/
theorem clo30 (g n c : Nat) (l k : ByteArray) (w : World) (h0 : 0 < n) (hn : n ≤ maxLen) (hc : w.cell? ⟨g, n - 1, none⟩ = some (.string l)) :
    Calls Try.prog 30 #[.slice (some ⟨g, 0, none⟩) n c, .string k] w fun e w' => e = .returned (.int .i64 (cmpv l k)) ∧ w' = w := by
  unfold maxLen at hn
  have e1 : ((n : Int) - 1).toNat = n - 1 := by omega
  have g1 : (1 : Int) ≤ (n : Int) := by omega
  go_enter Try.func30, Try.ntmps30
  go_wp2_with (go_at_call 31; refine (cmp31 _ _ _).mono ?_; rintro e w' ⟨rfl, rfl⟩)
  go_ret
  exact ⟨rfl, rfl⟩

def BsPost (b : Nat) (w : World) (e : Ending) (w' : World) : Prop := ∃ f, e = .returned (.tuple #[.int .i64 b, .bool f]) ∧ w' = w

set_option maxHeartbeats 1000000 in
/-- slices.BinarySearchFunc over the blocks: the split point b -/
theorem bsf_any (G n c : Nat) (k : ByteArray) (g m cc : Nat → Nat) (l : Nat → ByteArray) (b : Nat) (w : World) (hn : n ≤ 1000000000) (hb : b ≤ n)
    (hG : ∀ t, t < n → w.cell? ⟨G, t, none⟩ = some (.slice (some ⟨g t, 0, none⟩) (m t) (cc t))) (hm : ∀ t, t < n → 0 < m t ∧ m t ≤ maxLen) (hl : ∀ t, t < n → w.cell? ⟨g t, m t - 1, none⟩ = some (.string (l t)))
    (h1 : ∀ t, t < b → cmpv (l t) k < 0) (h2 : ∀ t, b ≤ t → t < n → 0 ≤ cmpv (l t) k) :
    Calls Try.prog 29 #[.slice (some ⟨G, 0, none⟩) n c, .string k, .func (.func 30) #[] #[]] w (BsPost b w) := by
  have C := hide (fun t (ht : t < n) => clo30 (g t) (m t) (cc t) (l t) k w (hm t ht).1 (hm t ht).2 (hl t ht))
  have HG := hide hG
  have H1 := hide h1
  have H2 := hide h2
  clear hG hl hm h1 h2
  go_enter Try.func29, Try.ntmps29
  go_wp2
  go_loop [9, 10] (fun i j => ∃ lo hi : Nat, i = .int .i64 lo ∧ j = .int .i64 hi ∧ lo ≤ b ∧ b ≤ hi ∧ hi ≤ n) (fun i j => (intOf j - intOf i).toNat)
  case atStart => exact ⟨0, n, rfl, rfl, Nat.zero_le _, hb, Nat.le_refl _⟩
  case round =>
    obtain ⟨lo, hi, rfl, rfl, hlo, hhi, hin⟩ := hrel
    by_cases hlt : lo < hi
    · have hmid : (lo + hi) / 2 < n := by omega
      have c1 := HG.out ((lo + hi) / 2) hmid
      have CC := hide (C.out ((lo + hi) / 2) hmid)
      obtain ⟨cv, hcv⟩ : ∃ cv, cmpv (l ((lo + hi) / 2)) k = cv := ⟨_, rfl⟩
      have t1 : (lo + hi) / 2 < b → cv < 0 := fun h => by rw [← hcv]; exact H1.out _ h
      have t2 : b ≤ (lo + hi) / 2 → 0 ≤ cv := fun h => by rw [← hcv]; exact H2.out _ h hmid
      rw [hcv] at CC
      obtain ⟨gg, hgg⟩ : ∃ x, g ((lo + hi) / 2) = x := ⟨_, rfl⟩
      obtain ⟨mm, hmm⟩ : ∃ x, m ((lo + hi) / 2) = x := ⟨_, rfl⟩
      obtain ⟨ccc, hccc⟩ : ∃ x, cc ((lo + hi) / 2) = x := ⟨_, rfl⟩
      rw [hgg, hmm, hccc] at CC c1
      clear hgg hmm hccc hcv
      by_cases hs : (lo + hi) / 2 < b
      · have t3 := t1 hs
        clear t1 t2
        go_wp2_with (go_at_call 30; refine (CC.out).mono ?_; rintro e w' ⟨rfl, rfl⟩)
        go_round
        case rel => exact ⟨(lo + hi) / 2 + 1, hi, by go_num, rfl, by omega, hhi, hin⟩
        case measure => simp [intOf]; omega
      · have t3 := t2 (by omega)
        clear t1 t2
        go_wp2_with (go_at_call 30; refine (CC.out).mono ?_; rintro e w' ⟨rfl, rfl⟩)
        go_round
        case rel => exact ⟨lo, (lo + hi) / 2, rfl, by go_num, hlo, by omega, by omega⟩
        case measure => simp [intOf]; omega
    · obtain rfl : lo = b := by omega
      by_cases hbn : lo < n
      · have c1 := HG.out lo hbn
        have CC := hide (C.out lo hbn)
        obtain ⟨cv, hcv⟩ : ∃ cv, cmpv (l lo) k = cv := ⟨_, rfl⟩
        obtain ⟨gg, hgg⟩ : ∃ x, g lo = x := ⟨_, rfl⟩
        obtain ⟨mm, hmm⟩ : ∃ x, m lo = x := ⟨_, rfl⟩
        obtain ⟨ccc, hccc⟩ : ∃ x, cc lo = x := ⟨_, rfl⟩
        rw [hcv, hgg, hmm, hccc] at CC
        rw [hgg, hmm, hccc] at c1
        clear hgg hmm hccc hcv
        go_wp2_with (go_at_call 30; refine (CC.out).mono ?_; rintro e w' ⟨rfl, rfl⟩)
        go_ret2
        exact ⟨_, rfl, rfl⟩
      · have hd : decide ((lo : Int) < (n : Int)) = false := by simp; omega
        go_wp2
        go_ret2
        exact ⟨_, rfl, rfl⟩

set_option maxHeartbeats 1000000 in
theorem bsf_none (a : Option Addr) (c : Nat) (k : ByteArray) (w : World) : Calls Try.prog 29 #[.slice a 0 c, .string k, .func (.func 30) #[] #[]] w (BsPost 0 w) := by
  go_enter Try.func29, Try.ntmps29
  go_wp2
  refine wp_loop_rounds 1 ?_
  rw [rounds_succ]
  go_wp2
  go_ret2
  exact ⟨_, rfl, rfl⟩

set_option maxHeartbeats 1000000 in
/-- slices.BinarySearch in a block: the split point i -/
theorem bs_any (g n c : Nat) (k : ByteArray) (s : Nat → ByteArray) (i : Nat) (w : World) (hn : n ≤ 1000000000) (hi : i ≤ n)
    (hg : ∀ t, t < n → w.cell? ⟨g, t, none⟩ = some (.string (s t))) (h1 : ∀ t, t < i → lts (s t) k = true) (h2 : ∀ t, i ≤ t → t < n → lts (s t) k = false) :
    Calls Try.prog 32 #[.slice (some ⟨g, 0, none⟩) n c, .string k] w fun e w' => e = .returned (.tuple #[.int .i64 i, .bool (decide (i < n ∧ s i = k))]) ∧ w' = w := by
  have HG := hide hg
  have H1 := hide h1
  have H2 := hide h2
  clear hg h1 h2
  obtain ⟨f, hf⟩ : ∃ f, decide (i < n ∧ s i = k) = f := ⟨_, rfl⟩
  have HF := hide hf
  rw [hf]
  clear hf
  go_enter Try.func32, Try.ntmps32
  go_wp2
  go_loop [7, 8] (fun x y => ∃ lo hi : Nat, x = .int .i64 lo ∧ y = .int .i64 hi ∧ lo ≤ i ∧ i ≤ hi ∧ hi ≤ n) (fun x y => (intOf y - intOf x).toNat)
  case atStart => exact ⟨0, n, rfl, rfl, Nat.zero_le _, hi, Nat.le_refl _⟩
  case round =>
    clear hi
    obtain ⟨lo, hi, rfl, rfl, hlo, hhi, hin⟩ := hrel
    by_cases hlt : lo < hi
    · have hmid : (lo + hi) / 2 < n := by omega
      have c1 := HG.out ((lo + hi) / 2) hmid
      have t1 : (lo + hi) / 2 < i → lts (s ((lo + hi) / 2)) k = true := fun h => H1.out _ h
      have t2 : i ≤ (lo + hi) / 2 → lts (s ((lo + hi) / 2)) k = false := fun h => H2.out _ h hmid
      obtain ⟨ss, hss⟩ : ∃ x, s ((lo + hi) / 2) = x := ⟨_, rfl⟩
      rw [hss] at c1 t1 t2
      clear hss
      by_cases hs : (lo + hi) / 2 < i
      · have L := hide (less_any ss k w)
        rw [t1 hs] at L
        clear t1 t2
        go_wp2_with (go_at_call 40; refine (L.out).mono ?_; rintro e w' ⟨rfl, rfl⟩)
        go_round
        case rel => exact ⟨(lo + hi) / 2 + 1, hi, by go_num, rfl, by omega, hhi, hin⟩
        case measure => simp [intOf]; omega
      · have L := hide (less_any ss k w)
        rw [t2 (by omega)] at L
        clear t1 t2
        go_wp2_with (go_at_call 40; refine (L.out).mono ?_; rintro e w' ⟨rfl, rfl⟩)
        go_round
        case rel => exact ⟨lo, (lo + hi) / 2, rfl, by go_num, hlo, by omega, by omega⟩
        case measure => simp [intOf]; omega
    · obtain rfl : lo = i := by omega
      by_cases hbn : lo < n
      · have c1 := HG.out lo hbn
        by_cases hk : s lo = k
        · rw [hk] at c1
          have e1 : f = true := by rw [← HF.out]; simp [hbn, hk]
          subst e1
          go_wp2_with (go_at_call 41; refine (nan2 _ _).mono ?_; rintro e w' ⟨rfl, rfl⟩)
          go_ret2
          exact ⟨rfl, rfl⟩
        · have e1 : f = false := by rw [← HF.out]; simp [hbn, hk]
          obtain ⟨ss, hss⟩ : ∃ x, s lo = x := ⟨_, rfl⟩
          rw [hss] at c1 hk
          have hk2 : (ss.toList == k.toList) = false := by
            rw [beq_eq_false_iff_ne]; intro h; exact hk (ByteArray.ext (by rw [← Array.toList_inj]; rw [← Lib.toList_data, ← Lib.toList_data]; exact h))
          subst e1
          clear hk HF hss
          go_wp2_with (go_at_call 41; refine (nan2 _ _).mono ?_; rintro e w' ⟨rfl, rfl⟩)
          go_ret2
          exact ⟨rfl, rfl⟩
      · have hd : decide ((lo : Int) < (n : Int)) = false := by simp; omega
        have e1 : f = false := by rw [← HF.out]; simp [hbn]
        subst e1
        go_wp2
        go_ret2
        exact ⟨rfl, rfl⟩
end Go.Proofs.Qxb6606313a
