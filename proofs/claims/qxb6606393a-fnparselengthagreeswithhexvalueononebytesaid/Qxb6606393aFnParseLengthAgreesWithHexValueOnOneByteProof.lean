/-
  THE PROOF OF 'Rows.FnParseLengthAgreesWithHexValueOnOneByteSaid'. The frame is the one that the guide's program wrote for this function; the callees' contracts, the plain law and the walk are typed for it. Not trusted: the kernel checks it.
-/
import Derived.Test.Qxb6606393aRows
import Derived.WalkKit
import Derived.ProofKit
import Derived.OpenShut
import Derived.ShutString
namespace Go.Proofs.Qxb6606393a.fnParseLengthAgreesWithHexValueOnOneByte
open Go.ChangeShapes Go.WideShapes Go.ChangeAt Go.RowKit
open Go.ChangeMaps (open_string shut_string)
set_option linter.unusedVariables false      -- a walk need not use every 'w<i>' (that an integer argument fits its kind)

theorem own : ownKnob Try.prog.godebug = none := by kernel_rfl

theorem ret_int {k : IntKind} {a b : Int} (h : a = b) : Ending.returned (.int k a) = .returned (.int k b) := by rw [h]

theorem hide {p : Prop} (h : p) : Hid p := h
def hexv (c : Int) : Int := if 48 ≤ c ∧ c ≤ 57 then c - 48 else if 97 ≤ c ∧ c ≤ 102 then c - 97 + 10 else if 65 ≤ c ∧ c ≤ 70 then c - 65 + 10 else -1

set_option maxHeartbeats 1000000 in
theorem hex_any (c : Int) (h0 : 0 ≤ c) (h1 : c ≤ 255) (w : World) :
    Calls Try.prog 10 #[.int .u8 c] w fun e w' => e = .returned (.int .i64 (hexv c)) ∧ w' = w := by
  rcases (show c < 48 ∨ (48 ≤ c ∧ c ≤ 57) ∨ (57 < c ∧ c < 65) ∨ (65 ≤ c ∧ c ≤ 70) ∨ (70 < c ∧ c < 97) ∨ (97 ≤ c ∧ c ≤ 102) ∨ 102 < c from by omega) with h | h | h | h | h | h | h
  all_goals
    go_enter Try.func10, Try.ntmps10
    go_wp2
    go_ret
    refine ⟨ret_int ?_, rfl⟩
    unfold hexv
    repeat (first | rw [if_pos (by omega)] | rw [if_neg (by omega)])
    try omega

set_option maxHeartbeats 1000000 in
theorem digits_one (c : Int) (h0 : 0 ≤ c) (h1 : c ≤ 255) (b : Nat) (w : World) (hc : w.cell? ⟨b, 0, none⟩ = some (.int .u8 c)) :
    Calls Try.prog 15 #[.slice (some ⟨b, 0, none⟩) 1 1] w fun e w' => e = .returned (.bool (decide (48 ≤ c ∧ c ≤ 57))) ∧ w' = w := by
  rcases (show c < 48 ∨ (48 ≤ c ∧ c ≤ 57) ∨ (57 < c) from by omega) with h | h | h
  all_goals
    go_enter Try.func15, Try.ntmps15
    go_wp2
    refine wp_loop_rounds 2 ?_
    rw [rounds_succ]
    go_wp2
    try (rw [rounds_succ]; go_wp2)
    go_ret
    refine ⟨congrArg (fun b => Ending.returned (.bool b)) ?_, rfl⟩
    simp; try omega

set_option maxHeartbeats 1000000 in
theorem parse_one (c : Int) (h0 : 0 ≤ c) (h1 : c ≤ 255) (b : Nat) (w : World) (hc : w.cell? ⟨b, 0, none⟩ = some (.int .u8 c)) :
    Calls Try.prog 12 #[.slice (some ⟨b, 0, none⟩) 1 1] w fun e w' => e = .returned (.tuple #[.int .i64 (if 48 ≤ c ∧ c ≤ 57 then c - 48 else 0), .bool (decide (48 ≤ c ∧ c ≤ 57))]) ∧ w' = w := by
  by_cases h : 48 ≤ c ∧ c ≤ 57
  · rw [if_pos h, decide_eq_true h]
    have H := hide (digits_one c h0 h1 b w hc)
    rw [decide_eq_true h] at H
    go_enter Try.func12, Try.ntmps12
    go_wp2_with (go_at_call 15; refine H.out.mono ?_; rintro e w' ⟨rfl, rfl⟩)
    refine wp_loop_rounds 2 ?_
    rw [rounds_succ]
    go_wp2
    rw [rounds_succ]
    go_wp2
    go_ret2
    exact ⟨rfl, rfl⟩
  · rw [if_neg h, decide_eq_false h]
    have H := hide (digits_one c h0 h1 b w hc)
    rw [decide_eq_false h] at H
    clear h
    go_enter Try.func12, Try.ntmps12
    go_wp2_with (go_at_call 15; refine H.out.mono ?_; rintro e w' ⟨rfl, rfl⟩)
    go_ret2
    exact ⟨rfl, rfl⟩

set_option maxHeartbeats 1000000 in
theorem zzparse_one (c : Int) (h0 : 0 ≤ c) (h1 : c ≤ 255) (b : Nat) (w : World) (hc : w.cell? ⟨b, 0, none⟩ = some (.int .u8 c)) :
    Calls Try.prog 8 #[.slice (some ⟨b, 0, none⟩) 1 1] w fun e w' => e = .returned (.tuple #[.int .i64 (if 48 ≤ c ∧ c ≤ 57 then c - 48 else 0), .bool (decide (48 ≤ c ∧ c ≤ 57))]) ∧ w' = w := by
  have H := hide (parse_one c h0 h1 b w hc)
  generalize (if 48 ≤ c ∧ c ≤ 57 then c - 48 else 0) = x at *
  generalize (decide (48 ≤ c ∧ c ≤ 57)) = y at *
  go_enter Try.func8, Try.ntmps8
  go_wp2_with (go_at_call 12; refine H.out.mono ?_; rintro e w' ⟨rfl, rfl⟩)
  go_ret2
  exact ⟨rfl, rfl⟩

theorem law_cases (c : Int) : (decide (48 ≤ c ∧ c ≤ 57) = true ∧ hexv c = (if 48 ≤ c ∧ c ≤ 57 then c - 48 else 0) ∧ 0 ≤ hexv c ∧ hexv c ≤ 9) ∨
    (decide (48 ≤ c ∧ c ≤ 57) = false ∧ (if 48 ≤ c ∧ c ≤ 57 then c - 48 else 0) = 0 ∧ (hexv c < 0 ∨ (0 ≤ hexv c ∧ 9 < hexv c))) := by
  unfold hexv
  by_cases h : 48 ≤ c ∧ c ≤ 57
  · left; simp only [if_pos h, decide_eq_true h]; exact ⟨trivial, trivial, by omega, by omega⟩
  · right; simp only [if_neg h, decide_eq_false h]
    refine ⟨trivial, trivial, ?_⟩
    repeat' split
    all_goals omega

set_option maxHeartbeats 1000000 in
theorem walk (a0 : Int) (w0 : (Lit.int .u8 a0).wf = true) (w : World) :
    Calls Try.prog 4 #[.int .u8 a0] w fun e w' => e = .returned (.bool true) ∧ Grown w w' := by
  have hb : 0 ≤ a0 ∧ a0 ≤ 255 := bounds_u8 w0
  obtain ⟨h0, h1⟩ := hb
  clear w0
  have H := hide (hex_any a0 h0 h1 w)
  have Z := hide (zzparse_one a0 h0 h1 w.heap.size (w.alloc (.cells #[.int .u8 a0] 5)) (by simp))
  have L := law_cases a0
  generalize (if 48 ≤ a0 ∧ a0 ≤ 57 then a0 - 48 else 0) = x at *
  generalize (decide (48 ≤ a0 ∧ a0 ≤ 57)) = y at *
  generalize hexv a0 = h at *
  rcases L with ⟨rfl, rfl, l1, l2⟩ | ⟨rfl, rfl, l1 | ⟨l1, l2⟩⟩
  all_goals
    go_enter Try.func4, Try.ntmps4
    go_wp2_with (first | (go_at_call 10; refine H.out.mono ?_; rintro e w' ⟨rfl, rfl⟩) | (go_at_call 8; refine Z.out.mono ?_; rintro e w' ⟨rfl, rfl⟩))
    go_ret
    exact ⟨rfl, by repeat (first | exact Grown.refl _ | apply Grown.drew | apply Grown.alloc)⟩

/-! ### THE ROW's STEP: WRITTEN OUT: LEAVE IT -/
set_option maxRecDepth 100000 in
theorem lifted (os : Os) (started : os.Started) (H : Type) (enc : TypeId × Value → H) :
    ReturnsInHanded {} Try.checked os 4 .any (Rows.fnParseLengthAgreesWithHexValueOnOneByteSpec.pre6 enc Try.prog Try.f4 Rows.fnParseLengthAgreesWithHexValueOnOneByteRow.domain false) (Rows.fnParseLengthAgreesWithHexValueOnOneByteSpec.post enc Try.prog Try.f4 false true false false) := by
  refine returnsInHanded_of_change (C := Try.checked) own started (by kernel_rfl) Try.func4
    (ChangeSpec.witness6 (enc := enc) (C := Try.checked) false ⟨#[], #[.int .u8 0], []⟩ 8 (by kernel_rfl) (by kernel_rfl) (by kernel_rfl) (by kernel_rfl)) ?_
  intro W base args ds gs before hval0 hW hcnd _
  have hval : ∀ (j : Nat) t v, Try.f4.params[j]? = some t → args[j]? = some v → Value.okWide Try.prog W .any base t v := hval0
  have hW' := hW
  obtain ⟨p, q, hA0, hV, rfl, hfz, hnd⟩ := hW
  have hA : DataW.TrodAll enc Try.prog W 0 (fun _ => true) true Try.f4.params.toList args.toList ds p := hA0
  rw [Try.params4] at hA hval
  obtain ⟨v0, vs0, d0, ds0, p0, q0, hargs, rfl, rfl, h0, r0⟩ := trodAll_cons hA
  obtain ⟨rfl, rfl, rfl⟩ := trodAll_nil r0
  obtain rfl : args = #[v0] := by cases args; simp_all
  obtain ⟨rfl, rfl⟩ := trodVars_none hV
  obtain ⟨a0, rfl, rfl, rfl, w0⟩ := open_int Try.underlying5 (hval 0 5 v0 rfl rfl) h0
  clear hA0 hval0
  simp only [List.append_nil] at hW'
  refine (walk a0 w0 W).mono fun e W' ⟨he, hg⟩ => ?_
  subst he
  exact ⟨_, rfl, post_of_same (pa := []) (pv := []) hW' (fun _ _ _ => (trodAll_cons_mk (shut_bool Try.underlying4 _) trodAll_mk0)) (fun sp _ => (trodAll_cons_mk (shut_int Try.underlying5 w0) trodAll_mk0)) (fun _ _ => rfl) rfl
    (hg.frame _) hg.2.1 (ok_one (by kernel_rfl) rfl (okWide_bool_mk Try.underlying4 _))⟩

theorem over : Rows.fnParseLengthAgreesWithHexValueOnOneByteRow.holds Try.pinned (OpenSpec.ofChange Rows.fnParseLengthAgreesWithHexValueOnOneByteSpec) :=
  OpenClaim.holds_of_wide 4 Try.f4 rfl rfl rfl rfl rfl rfl rfl ⟨rfl, rfl, rfl, rfl, rfl⟩ rfl rfl rfl rfl rfl (by kernel_rfl) Try.func4 (by kernel_rfl)
    (of_decide_eq_true (by kernel_rfl)) (by unfold Func.isWrapper; first | (rw [if_pos (by decide +kernel)]; kernel_rfl) | (rw [if_neg (by decide +kernel)]; exact ⟨rfl, rfl⟩))
    (fun os started H enc _ => lifted os started H enc)

/-- ████ THE STATEMENT ████ -/
theorem proved : Rows.FnParseLengthAgreesWithHexValueOnOneByteSaid :=
  over
#print axioms proved
end Go.Proofs.Qxb6606393a.fnParseLengthAgreesWithHexValueOnOneByte
