/-
  setTails, setHeads, isLMS, walked. Not trusted: the kernel checks it.
-/
import Derived.Test.Qxb6606288aSufF
import Derived.Deep.QuietTactic
import Derived.BigQuiet
import Derived.BigRegion
namespace Go.Proofs.Qxb6606288a
open Go.RowKit Go.Deep
set_option linter.unusedVariables false

def sumTo (C : Nat → Nat) : Nat → Nat
  | 0 => 0
  | a + 1 => sumTo C a + C a
theorem sumTo_le (C : Nat → Nat) (a : Nat) : sumTo C a ≤ sumTo C (a + 1) := by simp [sumTo]
theorem sumTo_mono (C : Nat → Nat) {a : Nat} : ∀ {b : Nat}, a ≤ b → sumTo C a ≤ sumTo C b
  | 0, h => by have : a = 0 := by omega
               subst this; exact Nat.le_refl _
  | b + 1, h => by
    by_cases e : a = b + 1
    · subst e; exact Nat.le_refl _
    · exact Nat.le_trans (sumTo_mono C (show a ≤ b by omega)) (sumTo_le C b)

/-- the buckets in memory: where their two slices lie -/
structure Bp (w : World) (lb lo gc gt k : Nat) : Prop where
  p0 : w.cell? ⟨lb, lo, none⟩ = some (.slice (some ⟨gc, 0, none⟩) k k)
  p1 : w.cell? ⟨lb, lo + 1, none⟩ = some (.slice (some ⟨gt, 0, none⟩) k k)
theorem Bp.touch {w w' : World} {lb lo gc gt k : Nat} (h : Bp w lb lo gc gt k) {S : Nat → Prop} (hT : Touch S w w') (hl : lb < w.heap.size) (hS : ¬ S lb) : Bp w' lb lo gc gt k :=
  ⟨(World.cell?_of_block (w := w) (hT.block lb hl hS)).trans h.p0, (World.cell?_of_block (w := w) (hT.block lb hl hS)).trans h.p1⟩

set_option maxHeartbeats 1000000 in
theorem tails19 (lb lo gc gt k : Nat) (C T : Nat → Nat) (w : World) (hk : k ≤ 100000) (hB : Bp w lb lo gc gt k) (hC : w.rowIs gc 21 k (fun a => .int .i32 (C a))) (hT : w.rowIs gt 21 k (fun a => .int .i32 (T a)))
    (hs : sumTo C k ≤ 100000) (hl : lb < w.heap.size) (h1 : lb ≠ gt) (h2 : gc ≠ gt) :
    Calls Try.prog 19 #[.pointer (some ⟨lb, lo, none⟩)] w fun e w' => e = .returned (.tuple #[]) ∧ w'.rowIs gt 21 k (fun a => .int .i32 (sumTo C (a + 1) : Nat)) ∧ Touch (· = gt) w w' := by
  have c0 := hB.p0
  have HB := hide hB
  have HC := hide hC
  have HT := hide hT
  clear hB hC hT
  go_enter Try.func19, Try.ntmps19
  go_wp2
  go_loopw [2, 10] (fun v i wr => ∃ a : Nat, a ≤ k ∧ i = .int .i64 a ∧ v = .int .i32 (sumTo C a : Nat) ∧ wr.rowIs gt 21 k (fun x => if x < a then .int .i32 (sumTo C (x + 1) : Nat) else .int .i32 (T x)) ∧ Touch (· = gt) w wr) (fun _ i _ => k - (intOf i).toNat)
  case atStart => exact ⟨0, Nat.zero_le _, rfl, rfl, by simpa using HT.out, Touch.refl _ _⟩
  case round =>
    clear c0
    obtain ⟨a, ha, rfl, rfl, hR, hTo⟩ := hrel
    by_cases hlt : a < k
    · have b1 := (HB.out.touch hTo hl h1).p1
      have b2 := (hTo.row HC.out h2).cell hlt
      have b3 := hR.frozen a
      have b4 := hR.cell hlt
      rw [if_neg (by omega)] at b4
      have m1 := sumTo_mono C (show a ≤ k by omega)
      have m2 := sumTo_mono C (show a + 1 ≤ k by omega)
      have HS : Hid (sumTo C (a + 1) = sumTo C a + C a) := rfl
      have m3 : sumTo C a + C a ≤ 100000 := by have := HS.out; omega
      have N1 : Hid ((wr.setCell ⟨gt, a, none⟩ (.int .i32 ((sumTo C a : Nat) + (C a : Nat) : Int))).rowIs gt 21 k (fun x => if x < a + 1 then .int .i32 (sumTo C (x + 1) : Nat) else .int .i32 (T x))) := by
        refine (hR.set a _).congr (fun x hx => ?_)
        by_cases e : x = a
        · subst e; rw [if_pos rfl, if_pos (by omega), HS.out]; rfl
        · rw [if_neg e]
          by_cases e2 : x < a
          · rw [if_pos e2, if_pos (by omega)]
          · rw [if_neg e2, if_neg (by omega)]
      have N2 := hide (hTo.setCell (p := ⟨gt, a, none⟩) (fun _ => rfl) (.int .i32 ((sumTo C a : Nat) + (C a : Nat) : Int)))
      obtain ⟨S, hS⟩ : ∃ S, sumTo C a = S := ⟨_, rfl⟩
      rw [hS] at HS N1 N2 m3 m1 ⊢
      clear hR hTo hS m2
      go_wp2
      go_roundw
      case rel => exact ⟨a + 1, by omega, by go_num, by rw [HS.out]; go_num, N1.out, N2.out⟩
      case measure => simp [intOf]; omega
    · have HR : Hid (wr.rowIs gt 21 k (fun a => .int .i32 (sumTo C (a + 1) : Nat))) := hR.congr (fun x hx => by rw [if_pos (by omega)])
      have HTo := hide hTo
      clear hR hTo
      go_wp2
      go_end0
      exact ⟨rfl, HR.out, HTo.out⟩
set_option maxHeartbeats 1000000 in
theorem heads24 (lb lo gc gt k : Nat) (C T : Nat → Nat) (w : World) (hk : k ≤ 100000) (hB : Bp w lb lo gc gt k) (hC : w.rowIs gc 21 k (fun a => .int .i32 (C a))) (hT : w.rowIs gt 21 k (fun a => .int .i32 (T a)))
    (hs : sumTo C k ≤ 100000) (hl : lb < w.heap.size) (h1 : lb ≠ gt) (h2 : gc ≠ gt) :
    Calls Try.prog 24 #[.pointer (some ⟨lb, lo, none⟩)] w fun e w' => e = .returned (.tuple #[]) ∧ w'.rowIs gt 21 k (fun a => .int .i32 (sumTo C a : Nat)) ∧ Touch (· = gt) w w' := by
  have c0 := hB.p0
  have HB := hide hB
  have HC := hide hC
  have HT := hide hT
  clear hB hC hT
  go_enter Try.func24, Try.ntmps24
  go_wp2
  go_loopw [2, 10] (fun v i wr => ∃ a : Nat, a ≤ k ∧ i = .int .i64 a ∧ v = .int .i32 (sumTo C a : Nat) ∧ wr.rowIs gt 21 k (fun x => if x < a then .int .i32 (sumTo C x : Nat) else .int .i32 (T x)) ∧ Touch (· = gt) w wr) (fun _ i _ => k - (intOf i).toNat)
  case atStart => exact ⟨0, Nat.zero_le _, rfl, rfl, by simpa using HT.out, Touch.refl _ _⟩
  case round =>
    clear c0
    obtain ⟨a, ha, rfl, rfl, hR, hTo⟩ := hrel
    by_cases hlt : a < k
    · have b1 := (HB.out.touch hTo hl h1).p1
      have b2 := (hTo.row HC.out h2).cell hlt
      have b3 := hR.frozen a
      have b4 := hR.cell hlt
      rw [if_neg (by omega)] at b4
      have m1 := sumTo_mono C (show a ≤ k by omega)
      have m2 := sumTo_mono C (show a + 1 ≤ k by omega)
      have HS : Hid (sumTo C (a + 1) = sumTo C a + C a) := rfl
      have m3 : sumTo C a + C a ≤ 100000 := by have := HS.out; omega
      have N1 : Hid ((wr.setCell ⟨gt, a, none⟩ (.int .i32 (sumTo C a : Nat))).rowIs gt 21 k (fun x => if x < a + 1 then .int .i32 (sumTo C x : Nat) else .int .i32 (T x))) := by
        refine (hR.set a _).congr (fun x hx => ?_)
        by_cases e : x = a
        · subst e; rw [if_pos rfl, if_pos (by omega)]
        · rw [if_neg e]
          by_cases e2 : x < a
          · rw [if_pos e2, if_pos (by omega)]
          · rw [if_neg e2, if_neg (by omega)]
      have N2 := hide (hTo.setCell (p := ⟨gt, a, none⟩) (fun _ => rfl) (.int .i32 (sumTo C a : Nat)))
      obtain ⟨S, hS⟩ : ∃ S, sumTo C a = S := ⟨_, rfl⟩
      rw [hS] at HS N2 m3 m1 ⊢
      have N1 : Hid ((wr.setCell ⟨gt, a, none⟩ (.int .i32 (S : Nat))).rowIs gt 21 k (fun x => if x < a + 1 then .int .i32 (sumTo C x : Nat) else .int .i32 (T x))) := by rw [← hS]; exact N1
      clear hR hTo hS m2
      go_wp2
      go_roundw
      case rel => exact ⟨a + 1, by omega, by go_num, by rw [HS.out]; go_num, N1.out, N2.out⟩
      case measure => simp [intOf]; omega
    · have HR : Hid (wr.rowIs gt 21 k (fun a => .int .i32 (sumTo C a : Nat))) := hR.congr (fun x hx => by rw [if_pos (by omega)])
      have HTo := hide hTo
      clear hR hTo
      go_wp2
      go_end0
      exact ⟨rfl, HR.out, HTo.out⟩

/-! ### isLMS -/
set_option maxHeartbeats 1000000 in
theorem lms21 (s : List Nat) (gm i : Nat) (w : World) (hi : i < s.length) (hn : s.length ≤ 100000) (hM : w.rowIs gm 4 s.length (fun i => .bool (Sais.sm s i))) :
    Calls Try.prog 21 #[.slice (some ⟨gm, 0, none⟩) s.length s.length, .int .i64 i] w fun e w' => e = .returned (.bool (Sais.lms s i)) ∧ w' = w := by
  have c1 := hM.cell hi
  have HM := hide hM
  clear hM
  by_cases h0 : 0 < i
  · have d0 : decide ((0 : Int) < (i : Int)) = true := by simp; omega
    have c2 := HM.out.cell (i := i - 1) (by omega)
    have e1 : ((i : Int) - 1).toNat = i - 1 := by omega
    have hb1 : (0 : Int) ≤ (i : Int) - 1 := by omega
    have hb2 : (i : Int) - 1 < (s.length : Int) := by omega
    have hw : IntKind.i64.wrap ((i : Int) - 1) = (i : Int) - 1 := by rw [IntKind.wrap_i64]; omega
    have HL : Hid (Sais.lms s i = (Sais.sm s i && !(Sais.sm s (i - 1)))) := by unfold Hid Sais.lms; simp [h0]
    obtain ⟨x, hx⟩ : ∃ x, Sais.sm s i = x := ⟨_, rfl⟩
    obtain ⟨y, hy⟩ : ∃ y, Sais.sm s (i - 1) = y := ⟨_, rfl⟩
    rw [hx] at c1 HL
    rw [hy] at c2 HL
    clear hx hy
    cases x
    · go_enter Try.func21, Try.ntmps21
      go_wp2
      go_ret
      exact ⟨by rw [HL.out]; rfl, rfl⟩
    · cases y
      · go_enter Try.func21, Try.ntmps21
        go_wp2
        go_ret
        exact ⟨by rw [HL.out]; rfl, rfl⟩
      · go_enter Try.func21, Try.ntmps21
        go_wp2
        go_ret
        exact ⟨by rw [HL.out]; rfl, rfl⟩
  · obtain rfl : i = 0 := by omega
    have HL : Hid (Sais.lms s 0 = false) := by unfold Hid Sais.lms; simp
    clear c1
    go_enter Try.func21, Try.ntmps21
    go_wp2
    go_ret
    exact ⟨by rw [HL.out]; rfl, rfl⟩
end Go.Proofs.Qxb6606288a
