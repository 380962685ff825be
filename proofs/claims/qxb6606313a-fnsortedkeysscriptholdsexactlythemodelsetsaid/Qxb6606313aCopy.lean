/-
  'copy' and the append of a make, over a row that is known whole; what else is as it was. Of no program. Not trusted: the kernel checks it.
-/
import Derived.Test.Qxb6606313aApp
import Derived.Lib.AppendZerosOnto
import Derived.Lib.Overlaps
import Derived.Lib.SliceRun
namespace Go.Proofs.Qxb6606313a
open Go.RowKit Go.Deep
set_option linter.unusedVariables false

/-- w' is w but for block g -/
structure Same (g : Nat) (w w' : World) : Prop where
  os : w'.os = w.os
  tape : w'.tape = w.tape
  output : w'.output = w.output
  size : w'.heap.size = w.heap.size
  block : ∀ k, k ≠ g → w'.heap[k]? = w.heap[k]?

theorem Same.touch {g : Nat} {w w' : World} (h : Same g w w') : Touch (· = g) w w' := ⟨h.os, h.tape, h.output, Nat.le_of_eq h.size.symm, fun k _ hk => h.block k hk⟩

theorem Touch.refl (S : Nat → Prop) (w : World) : Touch S w w := ⟨rfl, rfl, rfl, Nat.le_refl _, fun _ _ _ => rfl⟩
theorem Touch.trans {S : Nat → Prop} {a b c : World} (h : Touch S a b) (k : Touch S b c) : Touch S a c :=
  ⟨k.os.trans h.os, k.tape.trans h.tape, k.output.trans h.output, Nat.le_trans h.size k.size, fun i hi hS => (k.block i (Nat.lt_of_lt_of_le hi h.size) hS).trans (h.block i hi hS)⟩
theorem Touch.drew {S : Nat → Prop} {a w : World} (h : Touch S a w) : Touch S a w.drew := ⟨h.os, h.tape, h.output, h.size, h.block⟩
theorem Touch.ofDrew {S : Nat → Prop} {a w : World} (h : Touch S a.drew w) : Touch S a w := ⟨h.os, h.tape, h.output, h.size, h.block⟩
theorem Touch.alloc {S : Nat → Prop} {a w : World} (h : Touch S a w) (o : Obj) : Touch S a (w.alloc o) :=
  ⟨h.os, h.tape, h.output, Nat.le_trans h.size (by simp), fun k hk hS => (Below.heap_alloc w o k (Nat.lt_of_lt_of_le hk h.size)).trans (h.block k hk hS)⟩
theorem Touch.setCell {S : Nat → Prop} {a w : World} (h : Touch S a w) {p : Addr} (hp : p.block < a.heap.size → S p.block) (u : Value) : Touch S a (w.setCell p u) :=
  ⟨h.os, h.tape, h.output, Nat.le_trans h.size (by simp [World.setCell]), fun k hk hS => (Below.heap_setCell w p u k (fun e => hS (by subst e; exact hp hk))).trans (h.block k hk hS)⟩
/-- what is touched may be widened; a block that is newer than the beginning does not count -/
theorem Touch.mono {S S' : Nat → Prop} {w w' : World} (h : Touch S w w') (hS : ∀ k, k < w.heap.size → S k → S' k) : Touch S' w w' :=
  ⟨h.os, h.tape, h.output, h.size, fun k hk hn => h.block k hk (fun e => hn (hS k hk e))⟩

theorem run_cp {P : Program} (w : World) (t ty e : TypeId) (ht : P.underlying t = some (.slice e)) (hsz : (P.info? e).map (·.size) = some 1)
    (g off dLen dCap : Nat) (sa : Option Addr) (sLen sCap : Nat) (xs : List Value) (hg : w.heap[g]? = some (.cells xs.toArray e (0, 0))) (cs : List Value) (hn : cs.length = Nat.min sLen dLen)
    (hsrc : 0 < cs.length → ∃ ad, sa = some ad ∧ ∀ j v, cs[j]? = some v → w.cell? (ad.add j) = some v) (hfit : off + cs.length ≤ xs.length) (h1 : ∀ v ∈ cs, v.oneCell' = true) :
    ∃ w', (Builtin.copy_ #[t, t] ty #[.slice (some ⟨g, off, none⟩) dLen dCap, .slice sa sLen sCap]).run P w = .ok (goInt cs.length) w' ∧ w'.heap[g]? = some (.cells (splice xs off cs).toArray e (0, 0)) ∧ Same g w w' := by
  by_cases h0 : cs.length = 0
  · obtain rfl : cs = [] := List.eq_nil_of_length_eq_zero h0
    refine ⟨w, ?_, by simpa [splice] using hg, ⟨rfl, rfl, rfl, rfl, fun _ _ => rfl⟩⟩
    exact run_copy_none (P := P) w t t ty e _ _ dLen dCap sLen sCap ht hsz (by simpa using hn.symm)
  · obtain ⟨ad, rfl, hs⟩ := hsrc (by omega)
    have hr := run_copy_row (P := P) w t t ty e g off dLen dCap ad sLen sCap xs.toArray e cs ht hsz hg hn hs (by simpa using hfit) h1
    refine ⟨_, hr, ?_, ⟨rfl, rfl, rfl, by simp [World.setRow], fun k hk => setRow_other w g k _ (by omega)⟩⟩
    simpa [splice] using setRow_heap w g _ _ e _ hg

/-- copy, as a law for the walk -/
theorem wpList_cp {P : Program} {w : World} {ops : Array Oper} {rest : List Oper} {o : Oper} {a : Act} {Q : Exit → Act → World → Prop} (hgd : o.guard = none) (d s : Operand) (t : TypeId)
    (ho : o.op = .call { callee := .builtin .copy, args := #[d, s], argTypes := #[t, t] }) (e : TypeId) (ht : P.underlying t = some (.slice e)) (hsz : (P.info? e).map (·.size) = some 1)
    (g off dLen dCap : Nat) (sa : Option Addr) (sLen sCap : Nat) (hd : a.eval d = .slice (some ⟨g, off, none⟩) dLen dCap) (hs : a.eval s = .slice sa sLen sCap)
    (xs : List Value) (hg : w.heap[g]? = some (.cells xs.toArray e (0, 0))) (cs : List Value) (hn : cs.length = Nat.min sLen dLen)
    (hsrc : 0 < cs.length → ∃ ad, sa = some ad ∧ ∀ j v, cs[j]? = some v → w.cell? (ad.add j) = some v) (hfit : off + cs.length ≤ xs.length) (h1 : ∀ v ∈ cs, v.oneCell' = true)
    (h : ∀ w', Hid (w'.heap[g]? = some (.cells (splice xs off cs).toArray e (0, 0)) ∧ Same g w w') → wpList P ops Q rest (a.put o.dst (goInt cs.length)) w') : wpList P ops Q (o :: rest) a w := by
  obtain ⟨w', hrun, hrest⟩ := run_cp (P := P) w t o.type e ht hsz g off dLen dCap sa sLen sCap xs hg cs hn hsrc hfit h1
  refine wpList_plain hgd fun K hK => ?_
  unfold Oper.wp
  simp [execOp, ho, resolve, invoke, builtin, hd, hs, hrun, Result.andThen]
  exact hK _ _ (h w' hrest)

/-- copy, as one step of a region that draws its order -/
theorem step_cp {P : Program} {w : World} {ops : Array Oper} {o : Oper} {a : Act} {K : Act → World → Prop} {Q : Exit → Act → World → Prop} {E : Prop} (hgd : o.guard = none) (d s : Operand) (t : TypeId)
    (ho : o.op = .call { callee := .builtin .copy, args := #[d, s], argTypes := #[t, t] }) (e : TypeId) (ht : P.underlying t = some (.slice e)) (hsz : (P.info? e).map (·.size) = some 1)
    (g off dLen dCap : Nat) (sa : Option Addr) (sLen sCap : Nat) (hd : a.eval d = .slice (some ⟨g, off, none⟩) dLen dCap) (hs : a.eval s = .slice sa sLen sCap)
    (xs : List Value) (hg : w.heap[g]? = some (.cells xs.toArray e (0, 0))) (cs : List Value) (hn : cs.length = Nat.min sLen dLen)
    (hsrc : 0 < cs.length → ∃ ad, sa = some ad ∧ ∀ j v, cs[j]? = some v → w.cell? (ad.add j) = some v) (hfit : off + cs.length ≤ xs.length) (h1 : ∀ v ∈ cs, v.oneCell' = true)
    (h : ∀ w', Hid (w'.heap[g]? = some (.cells (splice xs off cs).toArray e (0, 0)) ∧ Same g w w') → K (a.put o.dst (goInt cs.length)) w') :
    if Region.wanted o (yielded ops a.tmps) = true then Oper.wp P o a w K Q else E := by
  obtain ⟨w', hrun, hrest⟩ := run_cp (P := P) w t o.type e ht hsz g off dLen dCap sa sLen sCap xs hg cs hn hsrc hfit h1
  have hw : Region.wanted o (yielded ops a.tmps) = true := by simp [Region.wanted, hgd]
  rw [if_pos hw]
  unfold Oper.wp
  simp [execOp, ho, resolve, invoke, builtin, hd, hs, hrun, Result.andThen]
  exact h w' hrest

/-- 'append(s, make([]T, k)...)' without room: a new row -/
theorem run_appz {P : Program} (w : World) (t tn ty e : TypeId) (i : TypeInfo) (z : Value) (bytes : Nat) (ht : P.underlying t = some (.slice e)) (htn : P.underlying tn = some (.int .i64)) (hi : P.info? e = some i) (hz : i.zero = some z) (hs : i.size = 1) (hby : i.bytes = bytes) (hz1 : z.cells = #[z])
    (g n cap : Nat) (xs : List Value) (hg : w.heap[g]? = some (.cells xs.toArray e (0, 0))) (hn : n ≤ xs.length) (k : Nat) (h0 : 0 < k) (hroom : cap < n + k) (hbytes : (n + k) * bytes ≤ 140737488355328) (h63 : n + k ≤ maxLen) :
    ∃ C, n + k ≤ C ∧ C ≤ maxLen ∧ (Builtin.append_ #[t, tn] ty #[.slice (some ⟨g, 0, none⟩) n cap, .int .i64 (k : Int)]).run P w =
      .ok (.slice (some ⟨w.heap.size, 0, none⟩) (n + k) C) (w.drew.alloc (.cells (xs.take n ++ List.replicate (C - n) z).toArray e)) := by
  have hold : (Builtin.firstCells i.size n (.slice (some ⟨g, 0, none⟩) n cap)).run P w.drew = .ok (xs.take n).toArray w.drew := by
    rw [hs]
    refine run_firstCells_some w.drew 1 n ⟨g, 0, none⟩ n cap (xs.take n) (by simp; omega) (fun j v hj => ?_)
    have hadd : (⟨g, 0, none⟩ : Addr).add j = ⟨g, j, none⟩ := by unfold Addr.add; split <;> simp_all
    rw [hadd]
    show w.cell? _ = _
    rw [cell_of_row w g j xs.toArray e (0, 0) hg, List.getElem?_toArray]
    rw [List.getElem?_take] at hj
    split at hj
    · exact hj
    · cases hj
  have hfit := growslice_fits (bytes := bytes) hroom hbytes
  unfold maxLen at h63
  have hkb : k * bytes ≤ (n + k) * bytes := Nat.mul_le_mul_right _ (by omega)
  have hr := Lib.run_append_grow_zeros (P := P) w t tn ty e i z .i64 .i64 ht htn hi hz (some ⟨g, 0, none⟩) n cap (xs.take n) hold k h0 (by omega) hroom (by omega) (by rw [hby]; omega) (by rw [hby]; exact hfit)
  have hge := grownCap_ge w (n + k) cap e
  have hcm : grownCap w (n + k) cap e ≤ maxLen := grownCap_le_maxLen w (n + k) cap e (by unfold maxLen; omega)
  refine ⟨_, hge, hcm, ?_⟩
  rw [hr]
  have hzz : ∀ m, (Builtin.zeroCells z.cells m) = (List.replicate m z).toArray := by
    intro m
    apply Array.ext'
    rw [hz1]
    simp [Builtin.zeroCells]
    apply List.ext_getElem
    · simp
    · intro i h1 h2
      simp [Nat.mod_one]
  have hC : k + (grownCap w (n + k) cap e - (n + k)) = grownCap w (n + k) cap e - n := by omega
  congr 3
  rw [hzz, hzz]
  apply Array.ext'
  simp only [List.append_assoc, List.append_toArray, List.replicate_append_replicate, hC]
end Go.Proofs.Qxb6606313a
