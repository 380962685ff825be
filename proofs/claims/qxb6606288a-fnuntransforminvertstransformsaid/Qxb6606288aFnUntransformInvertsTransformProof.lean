/-
  THE PROOF OF 'Rows.FnUntransformInvertsTransformSaid'. The frame is the one that the guide's program wrote for this function; the walk is typed for it. Not trusted: the kernel checks it.
-/
import Derived.Test.Qxb6606288aRows
import Derived.Test.Qxb6606288aInvLaw
import Derived.WalkKit
import Derived.ProofKit
import Derived.OpenShut
import Derived.ShutString
import Derived.ChangeOld
import Derived.Below
namespace Go.Proofs.Qxb6606288a.fnUntransformInvertsTransform
open Go.ChangeShapes Go.WideShapes Go.ChangeAt Go.RowKit
open Go.ChangeMaps (open_string shut_string)
set_option linter.unusedVariables false

theorem own : ownKnob Try.prog.godebug = none := by kernel_rfl
theorem laidOut : laidOutB Try.prog = true := by kernel_rfl

/-- WHAT THE WALK IS TOLD OF A SLICE OF INTEGERS THAT CAME IN: it is nil; or it leads to a row of 'cap' cells, the numbers 'zs' (the first 'len' are its elements, the rest its spare room), each fitting its kind. -/
def IsRow (k : IntKind) (w : World) (a : Option Addr) (len cap : Nat) (zs : List Int) : Prop :=
  (a = none ∧ len = 0 ∧ cap = 0 ∧ zs = []) ∨
  ∃ x, a = some x ∧ len ≤ cap ∧ cap ≤ maxLen ∧ zs.length = cap ∧ (∀ i, i < zs.length → w.cell? (x.add i) = some (.int k (zs.getD i 0))) ∧ ∀ n ∈ zs, (Lit.int k n).wf = true

/-! ### STEP 1: THE WALK, every input: the early returns here, the main road in 'law_main'. -/
set_option maxHeartbeats 400000 in
theorem walk (a0 : Option Addr) (len0 cap0 : Nat) (z0 : List Int) (w : World) (w0 : IsRow .u8 w a0 len0 cap0 z0) :
    Calls Try.prog 3 #[.slice a0 len0 cap0] w fun e w' => e = .returned (.bool true) ∧ Below w.heap.size w w' := by
  have hm : len0 ≤ maxLen := by
    rcases w0 with ⟨_, h, _⟩ | ⟨x, _, h1, h2, _⟩
    · subst h; exact Nat.zero_le _
    · exact Nat.le_trans h1 h2
  have Z := hide (zz6 a0 len0 cap0 w hm)
  unfold maxLen at hm
  by_cases h1 : len0 ≤ 1048576
  · rw [decide_eq_true h1] at Z
    by_cases h2 : len0 ≤ 65536
    · by_cases h3 : len0 = 0
      · subst h3
        clear w0
        go_enter Try.func3, Try.ntmps3
        go_wp2_with (go_at_call 6; refine (Z.out).mono ?_; rintro e w ⟨rfl, rfl⟩)
        go_ret
        exact ⟨rfl, Below.refl _ _⟩
      · rcases w0 with ⟨_, h, _⟩ | ⟨x, rfl, g1, g2, g3, g4, g5⟩
        · exact absurd h h3
        · have hb : ∀ i, i < len0 → 0 ≤ z0.getD i 0 ∧ z0.getD i 0 ≤ 255 := by
            intro i hi
            have e : z0.getD i 0 = z0[i]'(by omega) := by simp [List.getD_eq_getElem?_getD, show i < z0.length from by omega]
            rw [e]
            exact bounds_u8 (g5 _ (List.getElem_mem _))
          have hget : ∀ i, Sais.c ((List.range len0).map (fun i => (z0.getD i 0).toNat)) i = if i < len0 then (z0.getD i 0).toNat else 0 := by
            intro i
            unfold Sais.c
            rw [List.getD_eq_getElem?_getD, List.getElem?_map]
            by_cases hi : i < len0
            · rw [List.getElem?_range hi, if_pos hi]; rfl
            · rw [if_neg hi, List.getElem?_eq_none (by simp; omega)]; rfl
          refine law_main x len0 cap0 ((List.range len0).map (fun i => (z0.getD i 0).toNat)) w (by simp) (by omega) h2 (fun i => ?_) (fun i hi => ?_)
          · rw [hget i]
            split
            · have := hb i ‹_›; omega
            · omega
          · rw [g4 i (by omega), hget i, if_pos hi]
            have := hb i hi
            rw [Int.toNat_of_nonneg this.1]
    · clear w0
      go_enter Try.func3, Try.ntmps3
      go_wp2_with (go_at_call 6; refine (Z.out).mono ?_; rintro e w ⟨rfl, rfl⟩)
      go_ret
      exact ⟨rfl, Below.refl _ _⟩
  · rw [decide_eq_false h1] at Z
    clear w0
    go_enter Try.func3, Try.ntmps3
    go_wp2_with (go_at_call 6; refine (Z.out).mono ?_; rintro e w ⟨rfl, rfl⟩)
    go_ret
    exact ⟨rfl, Below.refl _ _⟩

/-! ### THE ROW's STEP: WRITTEN OUT: LEAVE IT -/
set_option maxRecDepth 100000 in
theorem lifted (os : Os) (started : os.Started) (H : Type) (enc : TypeId × Value → H) :
    ReturnsInHanded {} Try.checked os 3 .any (Rows.fnUntransformInvertsTransformSpec.pre6 enc Try.prog Try.f3 Rows.fnUntransformInvertsTransformRow.domain false) (Rows.fnUntransformInvertsTransformSpec.post enc Try.prog Try.f3 false true false false) := by
  refine returnsInHanded_of_change (C := Try.checked) own started (by kernel_rfl) Try.func3
    (ChangeSpec.witness6 (enc := enc) (C := Try.checked) false ⟨#[], #[.slice none 0 0], []⟩ 8 (by kernel_rfl) (by kernel_rfl) (by kernel_rfl) (by kernel_rfl)) ?_
  intro W base args ds gs before hval0 hW hcnd _
  have hval : ∀ (j : Nat) t v, Try.f3.params[j]? = some t → args[j]? = some v → Value.okWide Try.prog W .any base t v := hval0
  have hW' := hW
  obtain ⟨p, q, hA0, hV, rfl, hfz, hnd⟩ := hW
  have hA : DataW.TrodAll enc Try.prog W 0 (fun _ => true) true Try.f3.params.toList args.toList ds p := hA0
  rw [Try.params3] at hA hval
  obtain ⟨v0, vs0, d0, ds0, p0, q0, hargs, rfl, rfl, h0, r0⟩ := trodAll_cons hA
  obtain ⟨rfl, rfl, rfl⟩ := trodAll_nil r0
  obtain rfl : args = #[v0] := by cases args; simp_all
  obtain ⟨rfl, rfl⟩ := trodVars_none hV
  obtain ⟨a0, len0, cap0, rfl⟩ := okWide_slice Try.underlying22 (hval 0 22 v0 rfl rfl)
  have k0 := h0
  have lt0 : ∀ x ∈ p0, x.block < W.heap.size := by obtain ⟨m, hm⟩ := k0; exact DataW.trod_lt m _ _ _ hm
  obtain ⟨z0, w0⟩ : ∃ zs, IsRow .u8 W a0 len0 cap0 zs := by
    obtain ⟨fuel, hf⟩ := h0
    rcases open_ints Try.underlying22 Try.underlying5 (by kernel_rfl) hf with ⟨hcs, _⟩ | ⟨x, l, c, zs, hcs, _, hl, hm, hz, _, hcell, hwz⟩
    · simp [Value.cells] at hcs
      obtain ⟨rfl, rfl, rfl⟩ := hcs
      exact ⟨[], .inl ⟨rfl, rfl, rfl, rfl⟩⟩
    · simp [Value.cells] at hcs
      obtain ⟨rfl, rfl, rfl⟩ := hcs
      exact ⟨zs, .inr ⟨_, rfl, hl, hm, by simpa using hz, hcell, hwz⟩⟩
  clear hA0 hval0
  refine (walk a0 len0 cap0 z0 W w0).mono fun e W' ⟨he, bel⟩ => ?_
  subst he
  exact ⟨_, rfl, _, _, _, [], _, [], hW', trodAll_mk1 (shut_bool Try.underlying4 _), (trodAll_cons_mk (Below.trod laidOut (by kernel_rfl) (of_decide_eq_true (by kernel_rfl)) k0 bel lt0) trodAll_mk0), rfl, bel.frame _, fun h => by cases h⟩

theorem over : Rows.fnUntransformInvertsTransformRow.holds Try.pinned (OpenSpec.ofChange Rows.fnUntransformInvertsTransformSpec) :=
  OpenClaim.holds_of_wide 3 Try.f3 rfl rfl rfl rfl rfl rfl rfl ⟨rfl, rfl, rfl, rfl, rfl⟩ rfl rfl rfl rfl rfl (by kernel_rfl) Try.func3 (by kernel_rfl)
    (of_decide_eq_true (by kernel_rfl)) (by unfold Func.isWrapper; first | (rw [if_pos (by decide +kernel)]; kernel_rfl) | (rw [if_neg (by decide +kernel)]; exact ⟨rfl, rfl⟩))
    (fun os started H enc _ => lifted os started H enc)

/-- ████ THE STATEMENT ████ -/
theorem proved : Rows.FnUntransformInvertsTransformSaid := over
#print axioms proved
end Go.Proofs.Qxb6606288a.fnUntransformInvertsTransform
