/-
  transform, walked. Not trusted: the kernel checks it.
-/
import Derived.Test.Qxb6606288aTransA
namespace Go.Proofs.Qxb6606288a
open Go.RowKit Go.Deep
set_option linter.unusedVariables false
set_option linter.unusedSimpArgs false

set_option maxHeartbeats 8000000 in
set_option maxRecDepth 100000 in
theorem trans13 (s : List Nat) (bt gb gl n : Nat) (f : Nat → Value) (w : World) (hnn : s.length = n) (hn1 : 1 ≤ n) (hn : n ≤ 65536) (hs : ∀ i, Sais.c s i < 256) (ht : w.rowIs bt 28 2 (fun _ => .slice none 0 0)) (hb : w.rowIs gb 5 n (fun i => .int .u8 (Sais.c s i : Nat))) (hl : w.rowIs gl 5 n f) (d1 : bt ≠ gb) (d2 : bt ≠ gl) (d3 : gb ≠ gl) :
    Calls Try.prog 13 #[.pointer (some ⟨bt, 0, none⟩), .slice (some ⟨gb, 0, none⟩) n n, .slice (some ⟨gl, 0, none⟩) n n] w fun e w' => ∃ (SA : List Nat) (p0 : Nat), Sais.IsSA s SA ∧ p0 < n ∧ SA[p0]? = some 0 ∧ e = .returned (.int .i64 ((p0 : Int) + 1)) ∧ w'.rowIs gl 5 n (fun y => .int .u8 (Sais.Lw s SA p0 y : Nat)) ∧ w'.rowIs gb 5 n (fun i => .int .u8 (Sais.c s i : Nat)) ∧ Touch (fun b => b = bt ∨ b = gl) w w' := by
  have S15 := hide (grown32_nil n (by omega) (by omega) w)
  have ltt := ht.lt
  have ltb := hb.lt
  have ltl := hl.lt
  have r0 := (ht.alloc (.cells (madeCells #[.int .i32 0] n) 21))
  have r1 := r0.set 0 (.slice (some ⟨w.heap.size, 0, none⟩) n n)
  have a1 := ht.cell (i := 0) (by omega)
  have a2 := r0.cell (i := 0) (by omega)
  have a3 := r0.frozen 0
  have r2 := (World.rowIs_made w (.int .i32 0) n 21).setOther (a := ⟨bt, 0, none⟩) (by show w.heap.size ≠ bt; omega) (.slice (some ⟨w.heap.size, 0, none⟩) n n)
  have r3 := (hb.alloc (.cells (madeCells #[.int .i32 0] n) 21)).setOther (a := ⟨bt, 0, none⟩) (by show gb ≠ bt; omega) (.slice (some ⟨w.heap.size, 0, none⟩) n n)
  have r4 := (hl.alloc (.cells (madeCells #[.int .i32 0] n) 21)).setOther (a := ⟨bt, 0, none⟩) (by show gl ≠ bt; omega) (.slice (some ⟨w.heap.size, 0, none⟩) n n)
  have t1 : Touch (fun b => b = bt ∨ b = gl) w ((w.alloc (.cells (madeCells #[.int .i32 0] n) 21)).setCell ⟨bt, 0, none⟩ (.slice (some ⟨w.heap.size, 0, none⟩) n n)) := ((Touch.refl _ w).alloc _).setCell (fun _ => .inl rfl) _
  obtain ⟨W2, hW2⟩ : ∃ W2, (w.alloc (.cells (madeCells #[.int .i32 0] n) 21)).setCell ⟨bt, 0, none⟩ (.slice (some ⟨w.heap.size, 0, none⟩) n n) = W2 := ⟨_, rfl⟩
  rw [hW2] at r1 r2 r3 r4 t1
  obtain ⟨ga, hga⟩ : ∃ ga, w.heap.size = ga := ⟨_, rfl⟩
  have b1 : W2.cell? ⟨bt, 0, none⟩ = some (.slice (some ⟨ga, 0, none⟩) n n) := by rw [r1.cell (by omega), if_pos rfl, hga]
  have hSP : SP s ga 0 n gb 0 bt 1 (fun _ => .int .i32 0) (fun _ => 0) (fun i => .int .u8 (Sais.c s i : Nat)) none 0 W2.drew := by
    rw [hga] at r2
    refine ⟨r2, fun _ _ => rfl, by omega, fun i hi => ?_, r3.lt, fun e => (by omega), ?_, r1.frozen 1, .inl rfl, fun b o e => (by simp [lu] at e), fun a e => (by cases e), fun _ => rfl, r1.lt, by omega, d1⟩
    · rw [Nat.zero_add]; exact r3.cell (by omega)
    · show W2.cell? ⟨bt, 1, none⟩ = _
      rw [r1.cell (by omega), if_neg (by omega)]
  have S16 := hide (sort16 s ga n gb bt n _ _ W2.drew hnn hn1 (by omega) hs (by omega) hSP)
  rw [hga] at hW2 S15
  have R3 := hide r3
  have R4 := hide r4
  have T1 := hide t1
  have HS := hide hs
  have HN := hide hnn
  have hne1 : gb ≠ ga := by omega
  have hne2 : gl ≠ ga := by omega
  have hne3 : bt ≠ ga := by omega
  have hgle : w.heap.size ≤ ga := by omega
  clear r0 r1 r2 r3 r4 t1 hSP ht hb hl hs hnn hga
  go_enter Try.func13, Try.ntmps13
  go_wp2_with fail
  refine (S15.out).mono ?_
  rintro e w1 ⟨rfl, rfl⟩
  go_wp2_with fail
  go_region_with (go_at_call 16; refine (S16.out).mono ?_; rintro e w5 ⟨rfl, SA, f', h1, h2, h3, h4, h5⟩)
  have c1 := h5.row (R3.out.drew) (by rintro (e | e); exact hne1 e; exact d1 e.symm)
  have c2 := h5.row (R4.out.drew) (by rintro (e | e); exact hne2 e; exact d2 e.symm)
  have c3 : w5.cell? ⟨bt, 0, none⟩ = some (.slice (some ⟨ga, 0, none⟩) n n) := (h4 0 (by omega)).trans b1
  obtain ⟨p0, hp0, hz⟩ := h1.zero (by rw [HN.out]; omega)
  rw [HN.out] at hp0
  have hx : SA.getD p0 0 = 0 := by rw [List.getD_eq_getElem?_getD, hz]; rfl
  have t5 : Touch (fun b => b = bt ∨ b = gl) w w5 := by
    refine ⟨h5.os.trans T1.out.os, h5.tape.trans T1.out.tape, h5.output.trans T1.out.output, Nat.le_trans T1.out.size h5.size, fun k hk hS => ?_⟩
    rw [h5.block k (Nat.lt_of_lt_of_le hk T1.out.size) (by rintro (e | e); omega; exact hS (.inl e))]
    exact T1.out.block k hk hS
  have k1 := c1.cell (i := n - 1) (by omega)
  have k2 := c2.cell (i := 0) (by omega)
  have k3 := c2.frozen 0
  have HZ := hide hz
  have HSA := hide h1
  have HX := hide hx
  have HF := hide h3
  have N1 := hide (h2.setOther (a := ⟨gl, 0, none⟩) hne2.symm (.int .u8 (Sais.c s (n - 1) : Nat)))
  have N2 := hide (c1.setOther (a := ⟨gl, 0, none⟩) d3 (.int .u8 (Sais.c s (n - 1) : Nat)))
  have N3 := hide (c2.set 0 (.int .u8 (Sais.c s (n - 1) : Nat)))
  have N4 := hide (t5.setCell (p := ⟨gl, 0, none⟩) (fun _ => .inr rfl) (.int .u8 (Sais.c s (n - 1) : Nat)))
  have c4 : (w5.setCell ⟨gl, 0, none⟩ (.int .u8 (Sais.c s (n - 1) : Nat))).cell? ⟨bt, 0, none⟩ = some (.slice (some ⟨ga, 0, none⟩) n n) := by rw [cell_set_ne _ _ _ _ _ _ (fun e => absurd e d2)]; exact c3
  have L0 : Hid (Sais.Lw s SA p0 0 = Sais.c s (n - 1)) := by unfold Hid; rw [Sais.Lw_zero, HN.out]
  obtain ⟨ch, hch⟩ : ∃ ch, Sais.c s (n - 1) = ch := ⟨_, rfl⟩
  rw [hch] at k1 N1 N2 N3 N4 c4 L0
  obtain ⟨W6, hW6⟩ : ∃ W6, w5.setCell ⟨gl, 0, none⟩ (.int .u8 (ch : Nat)) = W6 := ⟨_, rfl⟩
  rw [hW6] at N1 N2 N3 N4 c4
  have e1 : ((n : Int) - 1).toNat = n - 1 := by omega
  have b5 : (0 : Int) ≤ (n : Int) - 1 := by omega
  have b6 : (n : Int) - 1 < (n : Int) := by omega
  have b7 : (0 : Int) < (n : Int) := by omega
  clear c1 c2 c3 t5 h1 h2 h3 h4 h5 hz hx hch S15 S16 R3 R4 T1 a1 a2 a3 b1
  go_wp2_with fail
  go_loopw [8, 9, 44] (fun v8 v9 v44 wr => ∃ (i j : Nat) (g : Nat → Value), i ≤ n ∧ v44 = .int .i64 (i : Nat) ∧ ((i ≤ p0 ∧ v8 = .int .i64 0 ∧ j = i + 1) ∨ (p0 < i ∧ v8 = .int .i64 ((p0 : Int) + 1) ∧ j = i)) ∧ v9 = .int .i64 (j : Nat) ∧ wr.rowIs ga 21 n f' ∧ wr.rowIs gb 5 n (fun i => .int .u8 (Sais.c s i : Nat)) ∧ wr.rowIs gl 5 n g ∧ (∀ y, y < j → g y = .int .u8 (Sais.Lw s SA p0 y : Nat)) ∧ Touch (fun b => b = bt ∨ b = gl) w wr) (fun _ _ v _ => n - (intOf v).toNat)
  case atStart => exact ⟨0, 1, _, Nat.zero_le _, rfl, .inl ⟨Nat.zero_le _, rfl, rfl⟩, rfl, N1.out, N2.out, N3.out, fun y hy => (by
    obtain rfl : y = 0 := by omega
    rw [if_pos rfl, L0.out]), N4.out⟩
  case round =>
    clear N1 N2 N3 N4 k1 k2 k3 c4 L0 hW6
    obtain ⟨i, j, g, hi, rfl, hcase, rfl, q1, q2, q3, q4, q5⟩ := hrel
    have Q1 := hide q1
    have Q2 := hide q2
    have Q3 := hide q3
    have Q4 := hide q4
    have Q5 := hide q5
    clear q1 q2 q3 q4 q5
    by_cases hlt : i < n
    · have c1 := Q1.out.cell hlt
      rw [HF.out i hlt] at c1
      have eb : (i : Int) < (n : Int) := by omega
      by_cases hip : i = p0
      · subst hip
        rw [HX.out] at c1
        rcases hcase with ⟨_, rfl, rfl⟩ | ⟨h, _⟩
        · have N : Hid (∀ y, y < i + 1 → g y = .int .u8 (Sais.Lw s SA i y : Nat)) := Q4.out
          clear HX
          go_wp2_with fail
          go_roundw
          case rel => exact ⟨i + 1, i + 1, g, by omega, by go_num, .inr ⟨by omega, by go_num, rfl⟩, rfl, Q1.out, Q2.out, Q3.out, Q4.out, Q5.out⟩
          case measure => simp [intOf]; omega
        · omega
      · have hq := HSA.out.pos HZ.out (by rw [HN.out]; exact hlt) hip
        have hq2 := HSA.out.lt' (y := i) (by rw [HN.out]; exact hlt)
        rw [HN.out] at hq2
        have hL : (i < p0 → Sais.Lw s SA p0 (i + 1) = Sais.c s (SA.getD i 0 - 1)) ∧ (p0 < i → Sais.Lw s SA p0 i = Sais.c s (SA.getD i 0 - 1)) := ⟨Sais.Lw_lo, Sais.Lw_hi⟩
        obtain ⟨q, hqe⟩ : ∃ q, SA.getD i 0 = q + 1 := ⟨SA.getD i 0 - 1, by omega⟩
        rw [hqe] at c1 hq2 hL
        rw [Nat.add_sub_cancel] at hL
        have HLw := hide hL
        have c2 := Q2.out.cell (i := q) (by omega)
        obtain ⟨cv, hcv⟩ : ∃ cv, Sais.c s q = cv := ⟨_, rfl⟩
        rw [hcv] at c2 HLw
        have z1 : (((q + 1 : Nat) : Int) - 1) = (q : Int) := by omega
        have z2 : ((q : Int) + 1 - 1) = (q : Int) := by omega
        have z3 : ((((q + 1 : Nat) : Int)) == 0) = false := by simp; omega
        have z4 : (((q : Int) + 1) == 0) = false := by simp; omega
        have z5 : (q : Int) < (n : Int) := by omega
        clear hL hqe hcv hq
        obtain ⟨hjn, hjL⟩ : j < n ∧ Hid (Sais.Lw s SA p0 j = cv) := by
          rcases hcase with ⟨h1, _, h2⟩ | ⟨h1, _, h2⟩
          · exact ⟨by omega, by rw [h2]; exact HLw.out.1 (by omega)⟩
          · exact ⟨by omega, by rw [h2]; exact HLw.out.2 h1⟩
        have c3 := Q3.out.cell hjn
        have c4 := Q3.out.frozen j
        have z6 : (j : Int) < (n : Int) := by omega
        have M1 := hide (Q1.out.setOther (a := ⟨gl, j, none⟩) hne2.symm (.int .u8 (cv : Nat)))
        have M2 := hide (Q2.out.setOther (a := ⟨gl, j, none⟩) d3 (.int .u8 (cv : Nat)))
        have M3 := hide (Q3.out.set j (.int .u8 (cv : Nat)))
        have M4 : Hid (∀ y, y < j + 1 → (fun y => if y = j then Value.int .u8 (cv : Nat) else g y) y = .int .u8 (Sais.Lw s SA p0 y : Nat)) := fun y hy => by
          show (if y = j then Value.int .u8 (cv : Nat) else g y) = _
          by_cases e : y = j
          · rw [if_pos e, e, hjL.out]
          · rw [if_neg e]; exact Q4.out y (by omega)
        have M5 := hide (Q5.out.setCell (p := ⟨gl, j, none⟩) (fun _ => .inr rfl) (.int .u8 (cv : Nat)))
        clear Q1 Q2 Q3 Q4 Q5 HLw hjL
        rcases hcase with ⟨h1, rfl, rfl⟩ | ⟨h1, rfl, rfl⟩
        · go_wp2_with fail
          go_roundw
          case rel => exact ⟨i + 1, i + 1 + 1, _, by omega, by go_num, .inl ⟨by omega, rfl, rfl⟩, by go_num, M1.out, M2.out, M3.out, M4.out, M5.out⟩
          case measure => simp [intOf]; omega
        · go_wp2_with fail
          go_roundw
          case rel => exact ⟨j + 1, j + 1, _, by omega, by go_num, .inr ⟨by omega, rfl, rfl⟩, by go_num, M1.out, M2.out, M3.out, M4.out, M5.out⟩
          case measure => simp [intOf]; omega
    · obtain rfl : n = i := by omega
      rcases hcase with ⟨h, _⟩ | ⟨_, rfl, rfl⟩
      · omega
      · clear hlt
        go_wp2_with fail
        go_ret
        exact ⟨SA, p0, HSA.out, hp0, HZ.out, rfl, Q3.out.congr Q4.out, Q2.out, Q5.out⟩
end Go.Proofs.Qxb6606288a
