/-
  sameLMS at byte and at int32, walked. Not trusted: the kernel checks it.
-/
import Derived.Test.Qxb6606288aWalkC
namespace Go.Proofs.Qxb6606288a
open Go.RowKit Go.Deep
set_option linter.unusedVariables false

/-- nothing has turned but the draws -/
structure Still (w w' : World) : Prop where
  heap : w'.heap = w.heap
  os : w'.os = w.os
  tape : w'.tape = w.tape
  output : w'.output = w.output
theorem Still.refl (w : World) : Still w w := ⟨rfl, rfl, rfl, rfl⟩
theorem Still.drewN {w w' : World} (h : Still w w') (k : Nat) : Still w (w'.drewN k) := ⟨h.heap, h.os, h.tape, h.output⟩
theorem Still.cell {w w' : World} (h : Still w w') (a : Addr) : w'.cell? a = w.cell? a := by simp [World.cell?, h.heap]
theorem Still.row {w w' : World} (h : Still w w') {b : Nat} {t : TypeId} {n : Nat} {f : Nat → Value} (hr : w.rowIs b t n f) : w'.rowIs b t n f := hr.of_block (by rw [h.heap])
theorem Still.touch {w w' : World} (h : Still w w') (S : Nat → Prop) : Touch S w w' := ⟨h.os, h.tape, h.output, by rw [h.heap]; exact Nat.le_refl _, fun k _ _ => by rw [h.heap]⟩

/-- how far the comparison has come -/
def SR (s : List Nat) (p q d : Nat) : Prop := p + d ≤ s.length ∧ q + d ≤ s.length ∧ (d = 0 ∨ (Sais.sm s (p + d - 1) = Sais.sm s (q + d - 1) ∧ (Sais.W s p = Sais.W s q ↔ Sais.wN s (p + d) = Sais.wN s (q + d))))

theorem sr_end1 {s : List Nat} {p q d : Nat} (h : SR s p q d) (hp : p < s.length) (hne : p ≠ q) (he : p + d = s.length) : ¬ Sais.W s p = Sais.W s q := by
  obtain ⟨h1, h2, h3⟩ := h
  rcases h3 with h3 | ⟨_, h3⟩
  · omega
  · rw [h3, Sais.wN_end (by omega)]
    exact fun e => Sais.wN_ne (by omega) e.symm
theorem sr_end2 {s : List Nat} {p q d : Nat} (h : SR s p q d) (hq : q < s.length) (hne : p ≠ q) (he : q + d = s.length) : ¬ Sais.W s p = Sais.W s q := by
  obtain ⟨h1, h2, h3⟩ := h
  rcases h3 with h3 | ⟨_, h3⟩
  · omega
  · rw [h3, Sais.wN_end (u := q + d) (by omega)]
    exact Sais.wN_ne (by omega)
theorem wN_head {s : List Nat} {u : Nat} (hu : u < s.length) : ∃ l, Sais.wN s u = Sais.enc s u :: l := by
  cases e : Sais.lms s u with
  | true => exact ⟨[], Sais.wN_lms e⟩
  | false => exact ⟨_, Sais.wN_step hu e⟩
theorem sr_diff {s : List Nat} {p q d : Nat} (h : SR s p q d) (h1 : p + d < s.length) (h2 : q + d < s.length) (hd : Sais.enc s (p + d) ≠ Sais.enc s (q + d)) : ¬ Sais.W s p = Sais.W s q := by
  obtain ⟨_, _, h3⟩ := h
  rcases h3 with rfl | ⟨_, h3⟩
  · intro e
    unfold Sais.W at e
    exact hd (List.cons.inj e).1
  · rw [h3]
    obtain ⟨l, e1⟩ := wN_head h1
    obtain ⟨m, e2⟩ := wN_head h2
    rw [e1, e2]
    exact fun e => hd (List.cons.inj e).1
theorem sr_lms {s : List Nat} {p q d : Nat} (h : SR s p q d) (h0 : 0 < d) (he : Sais.enc s (p + d) = Sais.enc s (q + d)) : Sais.lms s (p + d) = Sais.lms s (q + d) := by
  obtain ⟨_, _, h3⟩ := h
  rcases h3 with h3 | ⟨h3, _⟩
  · omega
  · exact Sais.lms_alike (by omega) (by omega) h3 (Sais.enc_eq.1 he).2
theorem sr_same {s : List Nat} {p q d : Nat} (h : SR s p q d) (h0 : 0 < d) (he : Sais.enc s (p + d) = Sais.enc s (q + d)) (hl : Sais.lms s (p + d) = true) : Sais.W s p = Sais.W s q := by
  have hl2 := sr_lms h h0 he
  rw [hl] at hl2
  obtain ⟨_, _, h3⟩ := h
  rcases h3 with h3 | ⟨_, h3⟩
  · omega
  · rw [h3, Sais.wN_lms hl, Sais.wN_lms hl2.symm, he]
theorem sr_next {s : List Nat} {p q d : Nat} (h : SR s p q d) (h1 : p + d < s.length) (h2 : q + d < s.length) (he : Sais.enc s (p + d) = Sais.enc s (q + d)) (hl : 0 < d → Sais.lms s (p + d) = false) : SR s p q (d + 1) := by
  refine ⟨by omega, by omega, .inr ⟨?_, ?_⟩⟩
  · have := (Sais.enc_eq.1 he).2
    rw [show p + (d + 1) - 1 = p + d by omega, show q + (d + 1) - 1 = q + d by omega]; exact this
  · by_cases h0 : d = 0
    · subst h0
      unfold Sais.W
      simp only [Nat.add_zero] at he
      rw [he]
      simp
    · have l1 := hl (by omega)
      have l2 := sr_lms h (by omega) he
      rw [l1] at l2
      obtain ⟨_, _, h3⟩ := h
      rcases h3 with h3 | ⟨_, h3⟩
      · omega
      · rw [h3, Sais.wN_step h1 l1, Sais.wN_step h2 l2.symm, he]
        simp [Nat.add_assoc]

set_option maxHeartbeats 4000000 in
set_option maxRecDepth 100000 in
theorem same22 (s : List Nat) (gs os cs gm p q : Nat) (w : World) (hp : p < s.length) (hq : q < s.length) (hne : p ≠ q) (hn : s.length ≤ 100000) (hcs : s.length ≤ cs) (hcm : os + cs ≤ 2 ^ 62)
    (hS : ∀ i, i < s.length → w.cell? ⟨gs, os + i, none⟩ = some (.int .u8 (Sais.c s i : Nat))) (hM : w.rowIs gm 4 s.length (fun i => .bool (Sais.sm s i))) :
    Calls Try.prog 22 #[.slice (some ⟨gs, os, none⟩) s.length cs, .slice (some ⟨gm, 0, none⟩) s.length s.length, .int .i64 p, .int .i64 q] w fun e w' => e = .returned (.bool (decide (Sais.W s p = Sais.W s q))) ∧ Still w w' := by
  have HS := hide hS
  have HM := hide hM
  clear hS hM
  obtain ⟨n, hnn⟩ : ∃ n, s.length = n := ⟨_, rfl⟩
  have HN := hide hnn
  rw [hnn] at hp hq hn hcs ⊢
  clear hnn
  have hz : n + 1 ≤ 100001 := by omega
  go_enter Try.func22, Try.ntmps22
  go_wp2
  go_loopw [9] (fun v wr => ∃ d : Nat, v = .int .i64 d ∧ SR s p q d ∧ Still w wr) (fun v _ => n + 1 - (intOf v).toNat)
  case atStart => exact ⟨0, rfl, ⟨by rw [HN.out]; omega, by rw [HN.out]; omega, .inl rfl⟩, Still.refl _⟩
  case round =>
    obtain ⟨d, rfl, hR, hSt⟩ := hrel
    have hd1 := hR.1
    have hd2 := hR.2.1
    rw [HN.out] at hd1 hd2
    have HR := hide hR
    have HSt := hide hSt
    clear hR hSt
    by_cases e1 : p + d = n
    · have g1 : (((p : Int) + (d : Int)) == (n : Int)) = true := by simp; omega
      have hF : Hid (decide (Sais.W s p = Sais.W s q) = false) := decide_eq_false (sr_end1 HR.out (by rw [HN.out]; exact hp) hne (by rw [HN.out]; exact e1))
      have eb1 : (p : Int) + (d : Int) ≤ 100000 := by omega
      clear e1
      go_wp2
      go_quiet (fail)
      go_wp2
      go_ret
      exact ⟨by rw [hF.out]; rfl, HSt.out.drewN _⟩
    have g1 : (((p : Int) + (d : Int)) == (n : Int)) = false := by simp; omega
    by_cases e2 : q + d = n
    · have g2 : (((q : Int) + (d : Int)) == (n : Int)) = true := by simp; omega
      have hF : Hid (decide (Sais.W s p = Sais.W s q) = false) := decide_eq_false (sr_end2 HR.out (by rw [HN.out]; exact hq) hne (by rw [HN.out]; exact e2))
      clear e1 e2
      go_wp2
      go_quiet (fail)
      go_wp2
      go_ret
      exact ⟨by rw [hF.out]; rfl, HSt.out.drewN _⟩
    have g2 : (((q : Int) + (d : Int)) == (n : Int)) = false := by simp; omega
    have p1 : p + d < n := by omega
    have p2 : q + d < n := by omega
    have t1 : ((p : Int) + (d : Int)).toNat = p + d := by omega
    have t2 : ((q : Int) + (d : Int)).toNat = q + d := by omega
    have b1 : (0 : Int) ≤ (p : Int) + (d : Int) := by omega
    have b2 : (0 : Int) ≤ (q : Int) + (d : Int) := by omega
    have b3 : (p : Int) + (d : Int) < (n : Int) := by omega
    have b4 : (q : Int) + (d : Int) < (n : Int) := by omega
    have w1 : IntKind.i64.wrap ((p : Int) + (d : Int)) = (p : Int) + (d : Int) := by rw [IntKind.wrap_i64]; omega
    have w2 : IntKind.i64.wrap ((q : Int) + (d : Int)) = (q : Int) + (d : Int) := by rw [IntKind.wrap_i64]; omega
    have c1 := (HSt.out.cell _).trans (HS.out (p + d) (by rw [HN.out]; exact p1))
    have c2 := (HSt.out.cell _).trans (HS.out (q + d) (by rw [HN.out]; exact p2))
    have c3 := (HSt.out.row HM.out).cell (i := p + d) (by rw [HN.out]; exact p1)
    have c4 := (HSt.out.row HM.out).cell (i := q + d) (by rw [HN.out]; exact p2)
    clear e1 e2
    by_cases hc : Sais.c s (p + d) = Sais.c s (q + d)
    case neg =>
      have hF : Hid (decide (Sais.W s p = Sais.W s q) = false) := decide_eq_false (sr_diff HR.out (by rw [HN.out]; exact p1) (by rw [HN.out]; exact p2) (fun e => hc (Sais.enc_eq.1 e).1))
      have g3 : (((Sais.c s (p + d) : Nat) : Int) != ((Sais.c s (q + d) : Nat) : Int)) = true := by simp; omega
      obtain ⟨x, hx⟩ : ∃ x, Sais.c s (p + d) = x := ⟨_, rfl⟩
      obtain ⟨y, hy⟩ : ∃ y, Sais.c s (q + d) = y := ⟨_, rfl⟩
      rw [hx] at c1 g3
      rw [hy] at c2 g3
      clear hx hy hc
      go_wp2
      go_quiet (fail)
      go_wp2
      go_ret
      exact ⟨by rw [hF.out]; rfl, HSt.out.drewN _⟩
    have g3 : (((Sais.c s (p + d) : Nat) : Int) != ((Sais.c s (q + d) : Nat) : Int)) = false := by simp; omega
    by_cases hm : Sais.sm s (p + d) = Sais.sm s (q + d)
    case neg =>
      have hF : Hid (decide (Sais.W s p = Sais.W s q) = false) := decide_eq_false (sr_diff HR.out (by rw [HN.out]; exact p1) (by rw [HN.out]; exact p2) (fun e => hm (Sais.enc_eq.1 e).2))
      obtain ⟨x, hx⟩ : ∃ x, Sais.c s (p + d) = x := ⟨_, rfl⟩
      obtain ⟨y, hy⟩ : ∃ y, Sais.c s (q + d) = y := ⟨_, rfl⟩
      rw [hx] at c1 g3
      rw [hy] at c2 g3
      obtain ⟨X, hX⟩ : ∃ x, Sais.sm s (p + d) = x := ⟨_, rfl⟩
      obtain ⟨Y, hY⟩ : ∃ x, Sais.sm s (q + d) = x := ⟨_, rfl⟩
      rw [hX] at c3 hm
      rw [hY] at c4 hm
      clear hx hy hc hX hY
      cases X <;> cases Y
      · exact absurd rfl hm
      · clear hm
        go_wp2
        go_quiet (fail)
        go_wp2
        go_ret
        exact ⟨by rw [hF.out]; rfl, HSt.out.drewN _⟩
      · clear hm
        go_wp2
        go_quiet (fail)
        go_wp2
        go_ret
        exact ⟨by rw [hF.out]; rfl, HSt.out.drewN _⟩
      · exact absurd rfl hm
    have he : Sais.enc s (p + d) = Sais.enc s (q + d) := Sais.enc_eq.2 ⟨hc, hm⟩
    have L1 : Hid (∀ w', Still w w' → Calls Try.prog 21 #[.slice (some ⟨gm, 0, none⟩) n n, .int .i64 ((p : Int) + (d : Int))] w' fun e w'' => e = .returned (.bool (Sais.lms s (p + d))) ∧ w'' = w') := by
      intro w' h
      have := lms21 s gm (p + d) w' (by rw [HN.out]; exact p1) (by rw [HN.out]; exact hn) (h.row HM.out)
      rw [HN.out, Int.natCast_add] at this; exact this
    have L2 : Hid (∀ w', Still w w' → Calls Try.prog 21 #[.slice (some ⟨gm, 0, none⟩) n n, .int .i64 ((q : Int) + (d : Int))] w' fun e w'' => e = .returned (.bool (Sais.lms s (q + d))) ∧ w'' = w') := by
      intro w' h
      have := lms21 s gm (q + d) w' (by rw [HN.out]; exact p2) (by rw [HN.out]; exact hn) (h.row HM.out)
      rw [HN.out, Int.natCast_add] at this; exact this
    have HE := hide he
    obtain ⟨x, hx⟩ : ∃ x, Sais.c s (p + d) = x := ⟨_, rfl⟩
    rw [← hc, hx] at g3 c2
    rw [hx] at c1
    obtain ⟨X, hX⟩ : ∃ x, Sais.sm s (p + d) = x := ⟨_, rfl⟩
    rw [← hm, hX] at c4
    rw [hX] at c3
    clear hx hX hc hm he
    by_cases h0 : d = 0
    · subst h0
      have NX := hide (sr_next HR.out (by rw [HN.out]; exact p1) (by rw [HN.out]; exact p2) HE.out (fun h => by omega))
      have c1' : wr.cell? ⟨gs, os + p, none⟩ = some (.int .u8 (x : Nat)) := by simpa using c1
      have c2' : wr.cell? ⟨gs, os + q, none⟩ = some (.int .u8 (x : Nat)) := by simpa using c2
      have c3' : wr.cell? ⟨gm, p, none⟩ = some (.bool X) := by simpa using c3
      have c4' : wr.cell? ⟨gm, q, none⟩ = some (.bool X) := by simpa using c4
      have g1' : ((p : Int) == (n : Int)) = false := by simp; omega
      have g2' : ((q : Int) == (n : Int)) = false := by simp; omega
      have b3' : (p : Int) < (n : Int) := by omega
      have b4' : (q : Int) < (n : Int) := by omega
      clear L1 L2 c1 c2 c3 c4 g1 g2 t1 t2 b1 b2 b3 b4 w1 w2
      cases X
      all_goals
        go_wp2
        go_quiet (fail)
        go_wp2
        all_goals refine ⟨⟨0 + 1, by go_num, NX.out, HSt.out.drewN _⟩, ?_⟩
        all_goals simp [intOf]
    have g5 : decide ((0 : Int) < (d : Int)) = true := by simp; omega
    have g5' : (0 : Int) < (d : Int) := by omega
    have g5'' : 0 < d := by omega
    have hl2 := sr_lms HR.out (by omega) HE.out
    cases hl : Sais.lms s (p + d) with
    | true =>
      have hT : Hid (decide (Sais.W s p = Sais.W s q) = true) := decide_eq_true (sr_same HR.out (by omega) HE.out hl)
      rw [hl] at hl2 L1
      rw [← hl2] at L2
      clear hl hl2 h0
      cases X
      all_goals
        go_wp2
        go_quiet (fail)
        go_wp2_with (first | (go_at_call_of 21 p; refine (L1.out _ (HSt.out.drewN _)).mono ?_; rintro e w5 ⟨rfl, rfl⟩) | (go_at_call_of 21 q; refine (L2.out _ (HSt.out.drewN _)).mono ?_; rintro e w5 ⟨rfl, rfl⟩))
        go_ret
        exact ⟨by rw [hT.out]; rfl, HSt.out.drewN _⟩
    | false =>
      have NX := hide (sr_next HR.out (by rw [HN.out]; exact p1) (by rw [HN.out]; exact p2) HE.out (fun _ => hl))
      rw [hl] at hl2 L1
      rw [← hl2] at L2
      clear hl hl2 h0
      cases X
      all_goals
        go_wp2
        go_quiet (fail)
        go_wp2_with (first | (go_at_call_of 21 p; refine (L1.out _ (HSt.out.drewN _)).mono ?_; rintro e w5 ⟨rfl, rfl⟩) | (go_at_call_of 21 q; refine (L2.out _ (HSt.out.drewN _)).mono ?_; rintro e w5 ⟨rfl, rfl⟩))
        all_goals refine ⟨⟨d + 1, by go_num, NX.out, HSt.out.drewN _⟩, ?_⟩
        all_goals (simp [intOf]; omega)

/-! ### the twin at int32 -/
set_option maxHeartbeats 4000000 in
set_option maxRecDepth 100000 in
theorem same27 (s : List Nat) (gs os cs gm p q : Nat) (w : World) (hp : p < s.length) (hq : q < s.length) (hne : p ≠ q) (hn : s.length ≤ 100000) (hcs : s.length ≤ cs) (hcm : os + cs ≤ 2 ^ 62)
    (hS : ∀ i, i < s.length → w.cell? ⟨gs, os + i, none⟩ = some (.int .i32 (Sais.c s i : Nat))) (hM : w.rowIs gm 4 s.length (fun i => .bool (Sais.sm s i))) :
    Calls Try.prog 27 #[.slice (some ⟨gs, os, none⟩) s.length cs, .slice (some ⟨gm, 0, none⟩) s.length s.length, .int .i64 p, .int .i64 q] w fun e w' => e = .returned (.bool (decide (Sais.W s p = Sais.W s q))) ∧ Still w w' := by
  have HS := hide hS
  have HM := hide hM
  clear hS hM
  obtain ⟨n, hnn⟩ : ∃ n, s.length = n := ⟨_, rfl⟩
  have HN := hide hnn
  rw [hnn] at hp hq hn hcs ⊢
  clear hnn
  have hz : n + 1 ≤ 100001 := by omega
  go_enter Try.func27, Try.ntmps27
  go_wp2
  go_loopw [9] (fun v wr => ∃ d : Nat, v = .int .i64 d ∧ SR s p q d ∧ Still w wr) (fun v _ => n + 1 - (intOf v).toNat)
  case atStart => exact ⟨0, rfl, ⟨by rw [HN.out]; omega, by rw [HN.out]; omega, .inl rfl⟩, Still.refl _⟩
  case round =>
    obtain ⟨d, rfl, hR, hSt⟩ := hrel
    have hd1 := hR.1
    have hd2 := hR.2.1
    rw [HN.out] at hd1 hd2
    have HR := hide hR
    have HSt := hide hSt
    clear hR hSt
    by_cases e1 : p + d = n
    · have g1 : (((p : Int) + (d : Int)) == (n : Int)) = true := by simp; omega
      have hF : Hid (decide (Sais.W s p = Sais.W s q) = false) := decide_eq_false (sr_end1 HR.out (by rw [HN.out]; exact hp) hne (by rw [HN.out]; exact e1))
      have eb1 : (p : Int) + (d : Int) ≤ 100000 := by omega
      clear e1
      go_wp2
      go_quiet (fail)
      go_wp2
      go_ret
      exact ⟨by rw [hF.out]; rfl, HSt.out.drewN _⟩
    have g1 : (((p : Int) + (d : Int)) == (n : Int)) = false := by simp; omega
    by_cases e2 : q + d = n
    · have g2 : (((q : Int) + (d : Int)) == (n : Int)) = true := by simp; omega
      have hF : Hid (decide (Sais.W s p = Sais.W s q) = false) := decide_eq_false (sr_end2 HR.out (by rw [HN.out]; exact hq) hne (by rw [HN.out]; exact e2))
      clear e1 e2
      go_wp2
      go_quiet (fail)
      go_wp2
      go_ret
      exact ⟨by rw [hF.out]; rfl, HSt.out.drewN _⟩
    have g2 : (((q : Int) + (d : Int)) == (n : Int)) = false := by simp; omega
    have p1 : p + d < n := by omega
    have p2 : q + d < n := by omega
    have t1 : ((p : Int) + (d : Int)).toNat = p + d := by omega
    have t2 : ((q : Int) + (d : Int)).toNat = q + d := by omega
    have b1 : (0 : Int) ≤ (p : Int) + (d : Int) := by omega
    have b2 : (0 : Int) ≤ (q : Int) + (d : Int) := by omega
    have b3 : (p : Int) + (d : Int) < (n : Int) := by omega
    have b4 : (q : Int) + (d : Int) < (n : Int) := by omega
    have w1 : IntKind.i64.wrap ((p : Int) + (d : Int)) = (p : Int) + (d : Int) := by rw [IntKind.wrap_i64]; omega
    have w2 : IntKind.i64.wrap ((q : Int) + (d : Int)) = (q : Int) + (d : Int) := by rw [IntKind.wrap_i64]; omega
    have c1 := (HSt.out.cell _).trans (HS.out (p + d) (by rw [HN.out]; exact p1))
    have c2 := (HSt.out.cell _).trans (HS.out (q + d) (by rw [HN.out]; exact p2))
    have c3 := (HSt.out.row HM.out).cell (i := p + d) (by rw [HN.out]; exact p1)
    have c4 := (HSt.out.row HM.out).cell (i := q + d) (by rw [HN.out]; exact p2)
    clear e1 e2
    by_cases hc : Sais.c s (p + d) = Sais.c s (q + d)
    case neg =>
      have hF : Hid (decide (Sais.W s p = Sais.W s q) = false) := decide_eq_false (sr_diff HR.out (by rw [HN.out]; exact p1) (by rw [HN.out]; exact p2) (fun e => hc (Sais.enc_eq.1 e).1))
      have g3 : (((Sais.c s (p + d) : Nat) : Int) != ((Sais.c s (q + d) : Nat) : Int)) = true := by simp; omega
      obtain ⟨x, hx⟩ : ∃ x, Sais.c s (p + d) = x := ⟨_, rfl⟩
      obtain ⟨y, hy⟩ : ∃ y, Sais.c s (q + d) = y := ⟨_, rfl⟩
      rw [hx] at c1 g3
      rw [hy] at c2 g3
      clear hx hy hc
      go_wp2
      go_quiet (fail)
      go_wp2
      go_ret
      exact ⟨by rw [hF.out]; rfl, HSt.out.drewN _⟩
    have g3 : (((Sais.c s (p + d) : Nat) : Int) != ((Sais.c s (q + d) : Nat) : Int)) = false := by simp; omega
    by_cases hm : Sais.sm s (p + d) = Sais.sm s (q + d)
    case neg =>
      have hF : Hid (decide (Sais.W s p = Sais.W s q) = false) := decide_eq_false (sr_diff HR.out (by rw [HN.out]; exact p1) (by rw [HN.out]; exact p2) (fun e => hm (Sais.enc_eq.1 e).2))
      obtain ⟨x, hx⟩ : ∃ x, Sais.c s (p + d) = x := ⟨_, rfl⟩
      obtain ⟨y, hy⟩ : ∃ y, Sais.c s (q + d) = y := ⟨_, rfl⟩
      rw [hx] at c1 g3
      rw [hy] at c2 g3
      obtain ⟨X, hX⟩ : ∃ x, Sais.sm s (p + d) = x := ⟨_, rfl⟩
      obtain ⟨Y, hY⟩ : ∃ x, Sais.sm s (q + d) = x := ⟨_, rfl⟩
      rw [hX] at c3 hm
      rw [hY] at c4 hm
      clear hx hy hc hX hY
      cases X <;> cases Y
      · exact absurd rfl hm
      · clear hm
        go_wp2
        go_quiet (fail)
        go_wp2
        go_ret
        exact ⟨by rw [hF.out]; rfl, HSt.out.drewN _⟩
      · clear hm
        go_wp2
        go_quiet (fail)
        go_wp2
        go_ret
        exact ⟨by rw [hF.out]; rfl, HSt.out.drewN _⟩
      · exact absurd rfl hm
    have he : Sais.enc s (p + d) = Sais.enc s (q + d) := Sais.enc_eq.2 ⟨hc, hm⟩
    have L1 : Hid (∀ w', Still w w' → Calls Try.prog 21 #[.slice (some ⟨gm, 0, none⟩) n n, .int .i64 ((p : Int) + (d : Int))] w' fun e w'' => e = .returned (.bool (Sais.lms s (p + d))) ∧ w'' = w') := by
      intro w' h
      have := lms21 s gm (p + d) w' (by rw [HN.out]; exact p1) (by rw [HN.out]; exact hn) (h.row HM.out)
      rw [HN.out, Int.natCast_add] at this; exact this
    have L2 : Hid (∀ w', Still w w' → Calls Try.prog 21 #[.slice (some ⟨gm, 0, none⟩) n n, .int .i64 ((q : Int) + (d : Int))] w' fun e w'' => e = .returned (.bool (Sais.lms s (q + d))) ∧ w'' = w') := by
      intro w' h
      have := lms21 s gm (q + d) w' (by rw [HN.out]; exact p2) (by rw [HN.out]; exact hn) (h.row HM.out)
      rw [HN.out, Int.natCast_add] at this; exact this
    have HE := hide he
    obtain ⟨x, hx⟩ : ∃ x, Sais.c s (p + d) = x := ⟨_, rfl⟩
    rw [← hc, hx] at g3 c2
    rw [hx] at c1
    obtain ⟨X, hX⟩ : ∃ x, Sais.sm s (p + d) = x := ⟨_, rfl⟩
    rw [← hm, hX] at c4
    rw [hX] at c3
    clear hx hX hc hm he
    by_cases h0 : d = 0
    · subst h0
      have NX := hide (sr_next HR.out (by rw [HN.out]; exact p1) (by rw [HN.out]; exact p2) HE.out (fun h => by omega))
      have c1' : wr.cell? ⟨gs, os + p, none⟩ = some (.int .i32 (x : Nat)) := by simpa using c1
      have c2' : wr.cell? ⟨gs, os + q, none⟩ = some (.int .i32 (x : Nat)) := by simpa using c2
      have c3' : wr.cell? ⟨gm, p, none⟩ = some (.bool X) := by simpa using c3
      have c4' : wr.cell? ⟨gm, q, none⟩ = some (.bool X) := by simpa using c4
      have g1' : ((p : Int) == (n : Int)) = false := by simp; omega
      have g2' : ((q : Int) == (n : Int)) = false := by simp; omega
      have b3' : (p : Int) < (n : Int) := by omega
      have b4' : (q : Int) < (n : Int) := by omega
      clear L1 L2 c1 c2 c3 c4 g1 g2 t1 t2 b1 b2 b3 b4 w1 w2
      cases X
      all_goals
        go_wp2
        go_quiet (fail)
        go_wp2
        all_goals refine ⟨⟨0 + 1, by go_num, NX.out, HSt.out.drewN _⟩, ?_⟩
        all_goals simp [intOf]
    have g5 : decide ((0 : Int) < (d : Int)) = true := by simp; omega
    have g5' : (0 : Int) < (d : Int) := by omega
    have g5'' : 0 < d := by omega
    have hl2 := sr_lms HR.out (by omega) HE.out
    cases hl : Sais.lms s (p + d) with
    | true =>
      have hT : Hid (decide (Sais.W s p = Sais.W s q) = true) := decide_eq_true (sr_same HR.out (by omega) HE.out hl)
      rw [hl] at hl2 L1
      rw [← hl2] at L2
      clear hl hl2 h0
      cases X
      all_goals
        go_wp2
        go_quiet (fail)
        go_wp2_with (first | (go_at_call_of 21 p; refine (L1.out _ (HSt.out.drewN _)).mono ?_; rintro e w5 ⟨rfl, rfl⟩) | (go_at_call_of 21 q; refine (L2.out _ (HSt.out.drewN _)).mono ?_; rintro e w5 ⟨rfl, rfl⟩))
        go_ret
        exact ⟨by rw [hT.out]; rfl, HSt.out.drewN _⟩
    | false =>
      have NX := hide (sr_next HR.out (by rw [HN.out]; exact p1) (by rw [HN.out]; exact p2) HE.out (fun _ => hl))
      rw [hl] at hl2 L1
      rw [← hl2] at L2
      clear hl hl2 h0
      cases X
      all_goals
        go_wp2
        go_quiet (fail)
        go_wp2_with (first | (go_at_call_of 21 p; refine (L1.out _ (HSt.out.drewN _)).mono ?_; rintro e w5 ⟨rfl, rfl⟩) | (go_at_call_of 21 q; refine (L2.out _ (HSt.out.drewN _)).mono ?_; rintro e w5 ⟨rfl, rfl⟩))
        all_goals refine ⟨⟨d + 1, by go_num, NX.out, HSt.out.drewN _⟩, ?_⟩
        all_goals (simp [intOf]; omega)
end Go.Proofs.Qxb6606288a
