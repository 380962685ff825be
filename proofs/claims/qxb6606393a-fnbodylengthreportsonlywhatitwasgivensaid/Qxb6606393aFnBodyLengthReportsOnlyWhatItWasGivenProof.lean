/-
  THE PROOF OF 'Rows.FnBodyLengthReportsOnlyWhatItWasGivenSaid'. The frame is the one that the guide's program wrote for this function; the callee's contract, the plain law and the walk are typed for it. Not trusted: the kernel checks it.
-/
import Derived.Test.Qxb6606393aRows
import Derived.WalkKit
import Derived.ProofKit
import Derived.OpenShut
import Derived.ShutString
namespace Go.Proofs.Qxb6606393a.fnBodyLengthReportsOnlyWhatItWasGiven
open Go.ChangeShapes Go.WideShapes Go.ChangeAt Go.RowKit
open Go.ChangeMaps (open_string shut_string)
set_option linter.unusedVariables false      -- a walk need not use every 'w<i>' (that an integer argument fits its kind)

theorem own : ownKnob Try.prog.godebug = none := by kernel_rfl

/-- What 'BodyLength' answers, in plain words. -/
def blen (st len : Int) (ch head : Bool) : Int :=
  if head = true ∨ st < 200 ∨ st = 204 ∨ st = 304 then 0 else if ch = true then -1 else if 0 ≤ len then len else -2

theorem ret_int {k : IntKind} {a b : Int} (h : a = b) : Ending.returned (.int k a) = .returned (.int k b) := by rw [h]

/-! ### The callee: 'zzBodyLength' answers 'blen' and makes at most new blocks. -/
set_option maxHeartbeats 1000000 in
theorem bl_any (a0 a1 : Int) (a2 a3 a4 : Bool) (w : World) :
    Calls Try.prog 11 #[.int .i64 a0, .int .i64 a1, .bool a2, .bool a3, .bool a4] w fun e w' => e = .returned (.int .i64 (blen a0 a1 a2 a4)) ∧ Grown w w' := by
  rcases (show a4 = true ∨ (a4 = false ∧ (a0 < 200 ∨ (a0 = 204) ∨ (a0 = 304) ∨ (200 ≤ a0 ∧ (a0 == 204) = false ∧ (a0 == 304) = false ∧ (a2 = true ∨ (a2 = false ∧ 0 ≤ a1) ∨ (a2 = false ∧ a1 < 0))))) from by
    simp only [beq_eq_false_iff_ne]
    cases a4 <;> cases a2 <;> simp <;> omega) with rfl | ⟨rfl, h | rfl | rfl | ⟨h1, h2, h3, rfl | ⟨rfl, h4⟩ | ⟨rfl, h4⟩⟩⟩
  all_goals
    go_enter Try.func11, Try.ntmps11
    go_wp2
    go_ret
    refine ⟨ret_int ?_, by repeat (first | exact Grown.refl _ | apply Grown.drew | apply Grown.alloc)⟩
    simp_all [blen]
  all_goals omega

theorem bl_eq {a0 a1 : Int} {a2 : Bool} (a3 : Bool) {a4 : Bool} {v : Int} (h : blen a0 a1 a2 a4 = v) (w : World) :
    Calls Try.prog 11 #[.int .i64 a0, .int .i64 a1, .bool a2, .bool a3, .bool a4] w fun e w' => e = .returned (.int .i64 v) ∧ Grown w w' := by
  subst h; exact bl_any a0 a1 a2 a3 a4 w

/-! ### The plain law: the cases in which the answer falls. -/
theorem bl_cases (a0 a1 : Int) (a2 a4 : Bool) :
    (blen a0 a1 a2 a4 = 0 ∧ (a4 = true ∨ (a4 = false ∧ (a0 == 200) = false))) ∨
    (blen a0 a1 a2 a4 = 0 ∧ (a0 == 200) = true ∧ a4 = false ∧ a2 = false ∧ a1 = 0) ∨
    (blen a0 a1 a2 a4 = -1 ∧ a4 = false ∧ a2 = true) ∨
    (blen a0 a1 a2 a4 = a1 ∧ 0 < a1 ∧ a4 = false ∧ a2 = false) ∨
    (blen a0 a1 a2 a4 = -2 ∧ a1 < 0 ∧ a4 = false ∧ a2 = false) := by
  simp only [beq_eq_false_iff_ne, beq_iff_eq]
  cases a4 <;> cases a2 <;> simp [blen] <;> (repeat' split) <;> omega

/-! ### STEP 1: THE WALK: the Go text returns true. -/
set_option maxHeartbeats 1000000 in
theorem walk (a0 : Int) (a1 : Int) (a2 : Bool) (a3 : Bool) (a4 : Bool) (w0 : (Lit.int .i64 a0).wf = true) (w1 : (Lit.int .i64 a1).wf = true) (w : World) :
    Calls Try.prog 5 #[.int .i64 a0, .int .i64 a1, .bool a2, .bool a3, .bool a4] w fun e w' => e = .returned (.bool true) ∧ Grown w w' := by
  clear w0 w1
  rcases bl_cases a0 a1 a2 a4 with ⟨h, rfl | ⟨rfl, h2⟩⟩ | ⟨h, h2, rfl, rfl, rfl⟩ | ⟨h, rfl, rfl⟩ | ⟨h, h1, rfl, rfl⟩ | ⟨h, h1, rfl, rfl⟩
  all_goals
    have H : Hid _ := bl_eq a3 h
    clear h
    go_enter Try.func5, Try.ntmps5
    go_wp2_with (go_at_call 11; refine (H.out _).mono ?_; rintro e w' ⟨rfl, hg⟩)
    all_goals (go_ret; exact ⟨rfl, by assumption⟩)

/-! ### THE ROW's STEP: WRITTEN OUT: LEAVE IT -/
set_option maxRecDepth 100000 in
theorem lifted (os : Os) (started : os.Started) (H : Type) (enc : TypeId × Value → H) :
    ReturnsInHanded {} Try.checked os 5 .any (Rows.fnBodyLengthReportsOnlyWhatItWasGivenSpec.pre6 enc Try.prog Try.f5 Rows.fnBodyLengthReportsOnlyWhatItWasGivenRow.domain false) (Rows.fnBodyLengthReportsOnlyWhatItWasGivenSpec.post enc Try.prog Try.f5 false true false false) := by
  refine returnsInHanded_of_change (C := Try.checked) own started (by kernel_rfl) Try.func5
    (ChangeSpec.witness6 (enc := enc) (C := Try.checked) false ⟨#[], #[.int .i64 0, .int .i64 0, .bool false, .bool false, .bool false], []⟩ 8 (by kernel_rfl) (by kernel_rfl) (by kernel_rfl) (by kernel_rfl)) ?_
  intro W base args ds gs before hval0 hW hcnd _
  have hval : ∀ (j : Nat) t v, Try.f5.params[j]? = some t → args[j]? = some v → Value.okWide Try.prog W .any base t v := hval0
  have hW' := hW
  obtain ⟨p, q, hA0, hV, rfl, hfz, hnd⟩ := hW
  have hA : DataW.TrodAll enc Try.prog W 0 (fun _ => true) true Try.f5.params.toList args.toList ds p := hA0
  rw [Try.params5] at hA hval
  obtain ⟨v0, vs0, d0, ds0, p0, q0, hargs, rfl, rfl, h0, r0⟩ := trodAll_cons hA
  obtain ⟨v1, vs1, d1, ds1, p1, q1, rfl, rfl, rfl, h1, r1⟩ := trodAll_cons r0
  obtain ⟨v2, vs2, d2, ds2, p2, q2, rfl, rfl, rfl, h2, r2⟩ := trodAll_cons r1
  obtain ⟨v3, vs3, d3, ds3, p3, q3, rfl, rfl, rfl, h3, r3⟩ := trodAll_cons r2
  obtain ⟨v4, vs4, d4, ds4, p4, q4, rfl, rfl, rfl, h4, r4⟩ := trodAll_cons r3
  obtain ⟨rfl, rfl, rfl⟩ := trodAll_nil r4
  obtain rfl : args = #[v0, v1, v2, v3, v4] := by cases args; simp_all
  obtain ⟨rfl, rfl⟩ := trodVars_none hV
  obtain ⟨a0, rfl, rfl, rfl, w0⟩ := open_int Try.underlying3 (hval 0 3 v0 rfl rfl) h0
  obtain ⟨a1, rfl, rfl, rfl, w1⟩ := open_int Try.underlying2 (hval 1 2 v1 rfl rfl) h1
  obtain ⟨a2, rfl, rfl, rfl⟩ := open_bool Try.underlying4 (hval 2 4 v2 rfl rfl) h2
  obtain ⟨a3, rfl, rfl, rfl⟩ := open_bool Try.underlying4 (hval 3 4 v3 rfl rfl) h3
  obtain ⟨a4, rfl, rfl, rfl⟩ := open_bool Try.underlying4 (hval 4 4 v4 rfl rfl) h4
  clear hA0 hval0
  simp only [List.append_nil] at hW'
  refine (walk a0 a1 a2 a3 a4 w0 w1 W).mono fun e W' ⟨he, hg⟩ => ?_
  subst he
  exact ⟨_, rfl, post_of_same (pa := []) (pv := []) hW' (fun _ _ _ => (trodAll_cons_mk (shut_bool Try.underlying4 _) trodAll_mk0)) (fun sp _ => (trodAll_cons_mk (shut_int Try.underlying3 w0) (trodAll_cons_mk (shut_int Try.underlying2 w1) (trodAll_cons_mk (shut_bool Try.underlying4 _) (trodAll_cons_mk (shut_bool Try.underlying4 _) (trodAll_cons_mk (shut_bool Try.underlying4 _) trodAll_mk0)))))) (fun _ _ => rfl) rfl
    (hg.frame _) hg.2.1 (ok_one (by kernel_rfl) rfl (okWide_bool_mk Try.underlying4 _))⟩

theorem over : Rows.fnBodyLengthReportsOnlyWhatItWasGivenRow.holds Try.pinned (OpenSpec.ofChange Rows.fnBodyLengthReportsOnlyWhatItWasGivenSpec) :=
  OpenClaim.holds_of_wide 5 Try.f5 rfl rfl rfl rfl rfl rfl rfl ⟨rfl, rfl, rfl, rfl, rfl⟩ rfl rfl rfl rfl rfl (by kernel_rfl) Try.func5 (by kernel_rfl)
    (of_decide_eq_true (by kernel_rfl)) (by unfold Func.isWrapper; first | (rw [if_pos (by decide +kernel)]; kernel_rfl) | (rw [if_neg (by decide +kernel)]; exact ⟨rfl, rfl⟩))
    (fun os started H enc _ => lifted os started H enc)

/-- ████ THE STATEMENT ████ -/
theorem proved : Rows.FnBodyLengthReportsOnlyWhatItWasGivenSaid :=
  over
#print axioms proved
end Go.Proofs.Qxb6606393a.fnBodyLengthReportsOnlyWhatItWasGiven
