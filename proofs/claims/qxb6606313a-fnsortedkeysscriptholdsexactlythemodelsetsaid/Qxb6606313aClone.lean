/-
  slices.Clone at []string, walked. Not trusted: the kernel checks it.
-/
import Derived.Test.Qxb6606313aInsert
namespace Go.Proofs.Qxb6606313a
open Go.RowKit Go.Deep
set_option linter.unusedVariables false

def ClPost (e : TypeId) (w : World) (news : List Value) (en : Ending) (w' : World) : Prop :=
  ∃ (g' : Nat) (xs' : List Value), en = .returned (.slice (some ⟨g', 0, none⟩) news.length xs'.length) ∧ w'.heap[g']? = some (.cells xs'.toArray e (0, 0)) ∧ xs'.take news.length = news ∧ news.length ≤ xs'.length ∧ xs'.length ≤ maxLen ∧ Below w.heap.size w w' ∧ w.heap.size ≤ g'

set_option maxHeartbeats 1000000 in
theorem cl26 (sa : Option Addr) (n cap : Nat) (news : List Value) (w : World) (hl : news.length = n) (hn : n ≤ 1000000) (hsa : sa ≠ none)
    (hsrc : 0 < n → ∃ ad, sa = some ad ∧ ad.block < w.heap.size ∧ ∀ j u, news[j]? = some u → w.cell? (ad.add j) = some u) (h1 : ∀ u ∈ news, u.oneCell' = true) :
    Calls Try.prog 26 #[.slice sa n cap] w (ClPost 9 w news) := by
  have hnil := fun w : World => Lib.run_eql_slice_nil (P := Try.prog) w 22 9 sa n cap 0 0 Try.underlying22
  have hsn : sa.isNone = false := by cases sa with
    | none => exact absurd rfl hsa
    | some _ => rfl
  rw [hsn] at hnil
  have H1 := hide h1
  have HS : Hid (0 < n → ∃ ad, sa = some ad ∧ ∀ j u, news[j]? = some u → (w.alloc (.cells #[] 9)).cell? (ad.add j) = some u) := by
    intro h
    obtain ⟨ad, h1, h2, h3⟩ := hsrc h
    refine ⟨ad, h1, fun j u hu => ?_⟩
    have hb : (ad.add j).block < w.heap.size := by unfold Addr.add; split <;> exact h2
    rw [World.cell?_alloc_lt _ _ _ hb]; exact h3 j u hu
  clear h1 hsn hsa hsrc
  go_enter Try.func26, Try.ntmps26
  go_wp2_with (at_builtin; refine wpList_app rfl (.tmp 5) (.tmp 6) 22 rfl 9 (.string ByteArray.empty) 16 Try.underlying22 Try.info9 rfl w.heap.size 0 0 [] rfl (Go.heap_alloc_new w _) (Nat.le_refl _) rfl (Nat.zero_le _) sa n cap news rfl hl HS.out H1.out (by unfold maxLen; omega) (by omega) ?_; intro g1 xs1 w1 A1)
  go_ret
  obtain ⟨q1, q2, q3, q4, q5, q6, q7, q8⟩ := A1.out
  rw [Nat.zero_add] at q2 q3
  simp only [World.size_alloc] at q6
  refine ⟨g1, xs1, by rw [hl]; simp, q1, by rw [hl, q2]; simp, by rw [hl]; exact q3, q4, ?_, by omega⟩
  exact ((Below.refl _ w).alloc (Nat.le_refl _) _).trans (q5.below (fun k hk e => by omega) (by simp))
end Go.Proofs.Qxb6606313a
