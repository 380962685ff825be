/-
  sortSuffixes at byte, at every length; what the transform writes, in plain words. Not trusted: the kernel checks it.
-/
import Derived.Test.Qxb6606288aByteN
namespace Go.Proofs.Qxb6606288a
open Go.RowKit Go.Deep
set_option linter.unusedVariables false

set_option maxHeartbeats 4000000 in
set_option maxRecDepth 100000 in
theorem one16 (s : List Nat) (ga N gs pl : Nat) (w : World) (hn : s.length = 1) (f : Nat → Value) (hr : w.rowIs ga 21 N f) (hN : 1 ≤ N) :
    Calls Try.prog 16 #[.slice (some ⟨gs, 0, none⟩) 1 1, .slice (some ⟨ga, 0, none⟩) 1 1, .int .i64 256, .pointer (some ⟨pl, 1, none⟩)] w fun e w' => e = .returned (.tuple #[]) ∧ w' = w.setCell ⟨ga, 0, none⟩ (.int .i32 0) := by
  have c1 := hr.cell (i := 0) (by omega)
  have c2 := hr.frozen 0
  clear hr
  go_enter Try.func16, Try.ntmps16
  go_wp2
  refine bodyPost_ret (results_none rfl _ _ _) rfl ?_
  exact ⟨rfl, rfl⟩

theorem sort16 (s : List Nat) (ga N gs pl n : Nat) (f : Nat → Value) (Aold : Nat → Int) (w : World) (hnn : s.length = n) (hn1 : 1 ≤ n) (hn : n ≤ 100000) (hs : ∀ i, Sais.c s i < 256) (hpg : pl ≠ ga) (hP : SP s ga 0 N gs 0 pl 1 f Aold (fun i => .int .u8 (Sais.c s i : Nat)) none 0 w) :
    Calls Try.prog 16 #[.slice (some ⟨gs, 0, none⟩) n n, .slice (some ⟨ga, 0, none⟩) n n, .int .i64 256, .pointer (some ⟨pl, 1, none⟩)] w fun e w' => e = .returned (.tuple #[]) ∧ ∃ (SA : List Nat) (f' : Nat → Value), Sais.IsSA s SA ∧ w'.rowIs ga 21 N f' ∧ (∀ i, i < n → f' i = .int .i32 (SA.getD i 0 : Nat)) ∧ (∀ y, y ≠ 1 → w'.cell? ⟨pl, y, none⟩ = w.cell? ⟨pl, y, none⟩) ∧ Touch (fun b => b = ga ∨ b = pl) w w' := by
  by_cases h1 : n = 1
  · subst h1
    refine (one16 s ga N gs pl w hnn f hP.row (by have := hP.fit; omega)).mono ?_
    rintro e w' ⟨rfl, rfl⟩
    refine ⟨rfl, [0], _, ⟨by rw [hnn]; exact List.Perm.refl _, List.pairwise_singleton _ _⟩, hP.row.set 0 _, fun i hi => ?_, fun y hy => ?_, (Touch.refl _ w).setCell (p := ⟨ga, 0, none⟩) (fun _ => .inl rfl) _⟩
    · obtain rfl : i = 0 := by omega
      rfl
    · exact cell_set_ne _ _ _ _ _ _ (fun e => absurd e hpg)
  · have H := head16 s (fun s' _ => sort23 s') ga 0 N gs 0 n n 256 pl 1 f Aold none 0 w (by omega) (by omega) (by omega) (by omega) (fun i _ => hs i) (by omega) (by omega) (by omega) (by omega) hP
    rw [hnn] at H
    refine H.mono ?_
    rintro e w' ⟨rfl, SA, f', g1, g2, g3, g4, g5⟩
    refine ⟨rfl, SA, f', g1, g2, fun i hi => ?_, g5.oth, g5.tc.mono (fun b _ e => ?_)⟩
    · have := g3 i (by omega)
      rw [Nat.zero_add] at this; exact this
    · rcases e with e | e | ⟨o, e⟩
      · exact .inl e
      · exact .inr e
      · simp [lu] at e

namespace Sais
/-- what the transform writes -/
def Lw (s SA : List Nat) (p0 y : Nat) : Nat := c s ((V s SA (p0 + 1)).getD y 0 - 1)
theorem Lw_zero {s SA : List Nat} {p0 : Nat} : Lw s SA p0 0 = c s (s.length - 1) := by
  unfold Lw V
  rw [List.getD_eq_getElem?_getD, List.getElem?_eraseIdx, if_pos (by omega)]; rfl
theorem Lw_lo {s SA : List Nat} {p0 i : Nat} (h : i < p0) : Lw s SA p0 (i + 1) = c s (SA.getD i 0 - 1) := by
  unfold Lw V
  rw [List.getD_eq_getElem?_getD, List.getElem?_eraseIdx, if_pos (by omega), List.getD_eq_getElem?_getD]; rfl
theorem Lw_hi {s SA : List Nat} {p0 i : Nat} (h : p0 < i) : Lw s SA p0 i = c s (SA.getD i 0 - 1) := by
  unfold Lw V
  rw [List.getD_eq_getElem?_getD, List.getElem?_eraseIdx, if_neg (by omega), List.getD_eq_getElem?_getD]; rfl
theorem IsSA.zero {s SA : List Nat} (h : IsSA s SA) (hn : 0 < s.length) : ∃ p0, p0 < s.length ∧ SA[p0]? = some 0 := by
  have h0 : 0 ∈ SA := h.1.mem_iff.2 (List.mem_range.2 hn)
  obtain ⟨i, hi, e⟩ := List.mem_iff_getElem.1 h0
  exact ⟨i, by rw [← h.len]; exact hi, by rw [List.getElem?_eq_getElem hi, e]⟩
theorem IsSA.pos {s SA : List Nat} (h : IsSA s SA) {p0 i : Nat} (hp : SA[p0]? = some 0) (hi : i < s.length) (hne : i ≠ p0) : 0 < SA.getD i 0 := by
  have hi' : i < SA.length := by rw [h.len]; exact hi
  obtain ⟨hp1, hp2⟩ := List.getElem?_eq_some_iff.1 hp
  rw [getD_get hi']
  have hnd : SA.Nodup := h.1.nodup_iff.2 List.nodup_range
  by_cases e : SA[i] = 0
  · exact absurd (nd_inj hnd (e.trans hp2.symm)) hne
  · omega
end Sais
end Go.Proofs.Qxb6606288a
