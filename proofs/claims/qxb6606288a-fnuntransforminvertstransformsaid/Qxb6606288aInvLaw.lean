/-
  The law: transform and untransform, put together. Not trusted: the kernel checks it.
-/
import Derived.Test.Qxb6606288aTransB
import Derived.Test.Qxb6606288aSafeWalks
namespace Go.Proofs.Qxb6606288a
open Go.RowKit Go.Deep
set_option linter.unusedVariables false
set_option linter.unusedSimpArgs false

set_option maxHeartbeats 400000 in
theorem zz6 (a : Option Addr) (n cap : Nat) (w : World) (hn : n ≤ maxLen) :
    Calls Try.prog 6 #[.slice a n cap] w fun e w' => e = .returned (.bool (decide (n ≤ 1048576))) ∧ w' = w := by
  unfold maxLen at hn
  by_cases h : n ≤ 1048576
  · rw [decide_eq_true h]
    go_enter Try.func6, Try.ntmps6
    go_wp2
    go_ret
    exact ⟨rfl, rfl⟩
  · rw [decide_eq_false h]
    go_enter Try.func6, Try.ntmps6
    go_wp2
    go_ret
    exact ⟨rfl, rfl⟩

set_option maxHeartbeats 4000000 in
theorem zz8 (s : List Nat) (bt gb gl n : Nat) (f : Nat → Value) (w : World) (hnn : s.length = n) (hn1 : 1 ≤ n) (hn : n ≤ 65536) (hs : ∀ i, Sais.c s i < 256) (ht : w.rowIs bt 28 2 (fun _ => .slice none 0 0)) (hb : w.rowIs gb 5 n (fun i => .int .u8 (Sais.c s i : Nat))) (hl : w.rowIs gl 5 n f) (d1 : bt ≠ gb) (d2 : bt ≠ gl) (d3 : gb ≠ gl) :
    Calls Try.prog 8 #[.pointer (some ⟨bt, 0, none⟩), .slice (some ⟨gb, 0, none⟩) n n, .slice (some ⟨gl, 0, none⟩) n n] w fun e w' => ∃ (SA : List Nat) (p0 : Nat), Sais.IsSA s SA ∧ p0 < n ∧ SA[p0]? = some 0 ∧ e = .returned (.int .i64 ((p0 : Int) + 1)) ∧ w'.rowIs gl 5 n (fun y => .int .u8 (Sais.Lw s SA p0 y : Nat)) ∧ w'.rowIs gb 5 n (fun i => .int .u8 (Sais.c s i : Nat)) ∧ Touch (fun b => b = bt ∨ b = gl) w w' := by
  have S := hide (trans13 s bt gb gl n f w hnn hn1 hn hs ht hb hl d1 d2 d3)
  clear ht hb hl hs hnn
  go_enter Try.func8, Try.ntmps8
  go_wp2_with fail
  refine (S.out).mono ?_
  rintro e w' ⟨SA, p0, h1, h2, h3, rfl, h4, h5, h6⟩
  have H := hide (And.intro h1 (And.intro h3 (And.intro h4 (And.intro h5 h6))))
  clear h1 h3 h4 h5 h6 S
  go_wp2_with fail
  go_ret
  exact ⟨SA, p0, H.out.1, h2, H.out.2.1, rfl, H.out.2.2.1, H.out.2.2.2.1, H.out.2.2.2.2⟩

set_option maxHeartbeats 4000000 in
theorem eq10 (g1 g2 n : Nat) (z : Nat → Nat) (w : World) (hn : n ≤ 65536) (h1 : w.rowIs g1 5 n (fun i => .int .u8 (z i : Nat))) (h2 : w.rowIs g2 5 n (fun i => .int .u8 (z i : Nat))) :
    Calls Try.prog 10 #[.slice (some ⟨g1, 0, none⟩) n n, .slice (some ⟨g2, 0, none⟩) n n] w fun e w' => e = .returned (.bool true) ∧ Still w w' := by
  have H1 := hide h1
  have H2 := hide h2
  clear h1 h2
  go_enter Try.func10, Try.ntmps10
  go_wp2
  go_loopw [5] (fun v wr => ∃ i : Nat, i ≤ n ∧ v = .int .i64 (i : Nat) ∧ Still w wr) (fun v _ => n - (intOf v).toNat)
  case atStart => exact ⟨0, Nat.zero_le _, rfl, Still.refl _⟩
  case round =>
    obtain ⟨i, hi, rfl, hS⟩ := hrel
    have HS := hide hS
    clear hS
    by_cases hlt : i < n
    · have c1 := (HS.out.row H1.out).cell hlt
      have c2 := (HS.out.row H2.out).cell hlt
      have eb : (i : Int) < (n : Int) := by omega
      obtain ⟨v, hv⟩ : ∃ v, z i = v := ⟨_, rfl⟩
      rw [hv] at c1 c2
      clear hv
      go_wp2
      go_quiet (fail)
      go_wp2
      go_roundw
      case rel => exact ⟨i + 1, by omega, by go_num, HS.out.drewN _⟩
      case measure => simp [intOf]; omega
    · obtain rfl : n = i := by omega
      clear hlt
      go_wp2
      go_ret
      exact ⟨rfl, HS.out⟩

set_option maxHeartbeats 4000000 in
set_option maxRecDepth 100000 in
theorem law_main (x : Addr) (n cap : Nat) (s : List Nat) (w : World) (hnn : s.length = n) (hn1 : 1 ≤ n) (hn : n ≤ 65536) (hs : ∀ i, Sais.c s i < 256) (hc : ∀ i, i < n → w.cell? (x.add i) = some (.int .u8 (Sais.c s i : Nat))) :
    Calls Try.prog 3 #[.slice (some x) n cap] w fun e w' => e = .returned (.bool true) ∧ Below w.heap.size w w' := by
  have Z := hide (zz6 (some x) n cap w (by unfold maxLen; omega))
  rw [decide_eq_true (by omega)] at Z
  have C := hide (clone_some x n cap (fun i => (Sais.c s i : Nat)) w (by omega) hc)
  have HS := hide hs
  have HN := hide hnn
  clear hc hs hnn
  have h0 : ((n : Int) == 0) = false := by simp; omega
  have hmk := run_make_row' (P := Try.prog) 22 5 (.int .u8 0) 1 Try.underlying22 Try.info5 rfl .i64 .i64 n (by omega) (by omega)
  go_enter Try.func3, Try.ntmps3
  go_wp2_with (first | (go_at_call 6; refine (Z.out).mono ?_; rintro e w ⟨rfl, rfl⟩) | (go_at_call 7; refine (C.out).mono ?_; rintro e w1 ⟨rfl, hr1, hb1⟩))
  have hg0 : w.heap.size < w1.heap.size := hr1.lt
  have hsz1 : (w1.alloc (.cells (madeCells #[.int .u8 0] n) 5)).heap.size = w1.heap.size + 1 := World.size_alloc _ _
  have r1 := (hr1.alloc (.cells (madeCells #[.int .u8 0] n) 5)).alloc (.cells #[.slice none 0 0, .slice none 0 0] 28)
  have r2 := (World.rowIs_made w1 (.int .u8 0) n 5).alloc (.cells #[.slice none 0 0, .slice none 0 0] 28)
  have r3 := World.rowIs_alloc (w1.alloc (.cells (madeCells #[.int .u8 0] n) 5)) #[.slice none 0 0, .slice none 0 0] 28 (fun _ => .slice none 0 0) (by
    intro i hi
    match i, hi with
    | 0, _ => rfl
    | 1, _ => rfl)
  rw [hsz1] at r3
  have B2 := (hb1.alloc hb1.size (.cells (madeCells #[.int .u8 0] n) 5)).alloc (by rw [hsz1]; omega) (.cells #[.slice none 0 0, .slice none 0 0] 28)
  have hsz2 : ((w1.alloc (.cells (madeCells #[.int .u8 0] n) 5)).alloc (.cells #[.slice none 0 0, .slice none 0 0] 28)).heap.size = w1.heap.size + 2 := by rw [World.size_alloc, hsz1]
  obtain ⟨W2, hW2⟩ : ∃ W2, (w1.alloc (.cells (madeCells #[.int .u8 0] n) 5)).alloc (.cells #[.slice none 0 0, .slice none 0 0] 28) = W2 := ⟨_, rfl⟩
  rw [hW2] at r1 r2 r3 B2 hsz2 ⊢
  have S8 := hide (zz8 s (w1.heap.size + 1) w.heap.size w1.heap.size n _ W2 HN.out hn1 hn HS.out r3 r1 r2 (by omega) (by omega) (by omega))
  have HB2 := hide B2
  clear r1 r2 r3 B2 hr1 hb1 hW2 hsz1 Z C
  refine (S8.out).mono ?_
  rintro e w3 ⟨SA, p0, h1, hp0, h3, rfl, h4, h5, h6⟩
  have B3 : Below w.heap.size w w3 := HB2.out.trans (h6.below (by rintro k hk (e | e) <;> omega) (by omega))
  have hw3 : w1.heap.size + 2 ≤ w3.heap.size := by have := h6.size; omega
  have hsz3 : (w3.alloc (.cells (madeCells #[.int .u8 0] n) 5)).heap.size = w3.heap.size + 1 := World.size_alloc _ _
  have r1 := (h5.alloc (.cells (madeCells #[.int .u8 0] n) 5)).alloc (.cells #[.slice none 0 0] 32)
  have r2 := (h4.alloc (.cells (madeCells #[.int .u8 0] n) 5)).alloc (.cells #[.slice none 0 0] 32)
  have r3 := (World.rowIs_made w3 (.int .u8 0) n 5).alloc (.cells #[.slice none 0 0] 32)
  have r4 := World.rowIs_alloc (w3.alloc (.cells (madeCells #[.int .u8 0] n) 5)) #[.slice none 0 0] 32 (fun _ => .slice none 0 0) (by intro i hi; simp at hi; subst hi; rfl)
  rw [hsz3] at r4
  have B4 := (B3.alloc (by omega) (.cells (madeCells #[.int .u8 0] n) 5)).alloc (by rw [hsz3]; omega) (.cells #[.slice none 0 0] 32)
  have hsz4 : ((w3.alloc (.cells (madeCells #[.int .u8 0] n) 5)).alloc (.cells #[.slice none 0 0] 32)).heap.size = w3.heap.size + 2 := by rw [World.size_alloc, hsz3]
  have hLb : ∀ i, Sais.Lw s SA p0 i < 256 := fun i => HS.out _
  have U := hide (zzuntr n n (p0 + 1) (w3.heap.size + 1) w1.heap.size w3.heap.size 32 (Sais.Lw s SA p0) _ _ hn (by omega) (by omega) (Nat.le_refl _) (by omega) hLb r4 r2 r3 (by omega) (by omega) (by omega))
  rw [show (((p0 + 1 : Nat)) : Int) = (p0 : Int) + 1 from rfl] at U
  have HI : Hid (∀ j, j < n → outv (Sais.Lw s SA p0) n (p0 + 1) j = Sais.c s j) := fun j hj => by
    have := Sais.invert (L := Sais.Lw s SA p0) (p := p0 + 1) h1 (by rw [List.getElem?_cons_succ]; exact h3) (fun i _ => rfl) hLb (j := j) (by rw [HN.out]; exact hj)
    rw [HN.out] at this; exact this
  have R1 := hide r1
  have HB4 := hide B4
  clear r1 r2 r3 r4 B3 B4 h1 h3 h4 h5 h6 hLb S8 HB2
  go_wp2_with (go_at_call 9; refine (U.out).mono ?_; rintro e w5 ⟨rfl, q1, q2, q3⟩)
  have q4 : w5.rowIs w3.heap.size 5 n (fun i => .int .u8 (Sais.c s i : Nat)) := q2.congr (fun j hj => by rw [if_pos hj, HI.out j hj])
  have q5 : w5.rowIs w.heap.size 5 n (fun i => .int .u8 (Sais.c s i : Nat)) := q3.row R1.out (by rintro (e | e) <;> omega)
  have B5 : Below w.heap.size w w5 := HB4.out.trans (q3.below (by rintro k hk (e | e) <;> omega) (by omega))
  have E := hide (eq10 w3.heap.size w.heap.size n (Sais.c s) w5 hn q4 q5)
  have HB5 := hide B5
  clear q1 q2 q3 q4 q5 B5 U HI R1 HB4
  go_wp2_with (go_at_call 10; refine (E.out).mono ?_; rintro e w6 ⟨rfl, hS⟩)
  go_ret
  exact ⟨rfl, HB5.out.trans ((hS.touch (fun _ => False)).below (fun _ _ h => h) (by have := HB5.out.size; omega))⟩
end Go.Proofs.Qxb6606288a
