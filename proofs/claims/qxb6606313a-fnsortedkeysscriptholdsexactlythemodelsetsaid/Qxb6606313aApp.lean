/-
  'append' onto a slice whose row is known whole: where the new slice lies, and what else is as it was. Of no program. Not trusted: the kernel checks it.
-/
import Derived.WalkKit
import Derived.Deep.OwnRows
import Derived.Laws.CopyOwn
import Derived.WalkLawsBesides
namespace Go.Proofs.Qxb6606313a
open Go.RowKit Go.Deep
set_option linter.unusedVariables false
theorem hide {p : Prop} (h : p) : Hid p := h

/-! ### the world: what may have turned -/
structure Touch (S : Nat → Prop) (w w' : World) : Prop where
  os : w'.os = w.os
  tape : w'.tape = w.tape
  output : w'.output = w.output
  size : w.heap.size ≤ w'.heap.size
  block : ∀ k, k < w.heap.size → ¬ S k → w'.heap[k]? = w.heap[k]?

theorem Touch.below {w w' : World} {B : Nat} {S : Nat → Prop} (h : Touch S w w') (hS : ∀ k, k < B → ¬ S k) (hB : B ≤ w.heap.size) : Below B w w' :=
  ⟨h.os, h.tape, h.output, h.size, fun k hk => h.block k (by omega) (hS k hk)⟩

/-! ### a slice whose row is known whole: 'xs' the row up to the capacity, the slice its first n cells -/
theorem run_app_room {P : Program} (w : World) (t ty e : TypeId) (i : TypeInfo) (ht : P.underlying t = some (.slice e)) (hi : P.info? e = some i) (hs : i.size = 1)
    (g n cap : Nat) (xs : List Value) (hg : w.heap[g]? = some (.cells xs.toArray e (0, 0))) (hn : n ≤ xs.length)
    (sa : Option Addr) (m c : Nat) (news : List Value) (hl : news.length = m) (hsrc : 0 < m → ∃ ad, sa = some ad ∧ ∀ j u, news[j]? = some u → w.cell? (ad.add j) = some u) (h1 : ∀ u ∈ news, u.oneCell' = true)
    (hroom : n + m ≤ cap) (hfit : n + m ≤ xs.length) :
    ∃ w', (Builtin.append_ #[t, t] ty #[.slice (some ⟨g, 0, none⟩) n cap, .slice sa m c]).run P w = .ok (.slice (some ⟨g, 0, none⟩) (n + m) cap) w' ∧
      w'.heap[g]? = some (.cells (xs.take n ++ news ++ xs.drop (n + m)).toArray e (0, 0)) ∧ w'.os = w.os ∧ w'.tape = w.tape ∧ w'.output = w.output ∧ w'.heap.size = w.heap.size ∧ (∀ k, k ≠ g → w'.heap[k]? = w.heap[k]?) := by
  by_cases h0 : m = 0
  · subst h0
    have hn0 : news = [] := List.eq_nil_of_length_eq_zero hl
    subst hn0
    refine ⟨w, ?_, by simpa using hg, rfl, rfl, rfl, rfl, fun _ _ => rfl⟩
    cases sa with
    | none => simp [Builtin.append_, run_underlying ht, sizeOf, typeInfo, hi, Builtin.lenOf, Builtin.firstCells, show n ≤ cap from by omega, Addr.add_lit, storeCells]
    | some ad => simp [Builtin.append_, run_underlying ht, sizeOf, typeInfo, hi, Builtin.lenOf, Builtin.firstCells, loadCells, loadCellsFrom, show n ≤ cap from by omega, Addr.add_lit, storeCells]
  · obtain ⟨ad, rfl, hnews⟩ := hsrc (by omega)
    have hr := run_append_room (P := P) w t ty e i ht hi g n cap xs.toArray hg ad m c news (by rw [hs]; omega) hnews h1 hroom (by rw [hs]; simp; omega)
    refine ⟨_, hr, ?_, rfl, rfl, rfl, by simp [World.setRow], fun k hk => setRow_other w g k _ (by omega)⟩
    have := setRow_heap w g xs.toArray (xs.take n ++ news ++ xs.drop (n + m)).toArray e (0, 0) hg
    rw [← this, hs, hl]; simp

/-- APPEND, room or none: the new slice, its row, what else is as it was. -/
theorem run_app {P : Program} (w : World) (t ty e : TypeId) (i : TypeInfo) (z : Value) (bytes : Nat) (ht : P.underlying t = some (.slice e)) (hi : P.info? e = some i) (hz : i.zero = some z) (hs : i.size = 1) (hby : i.bytes = bytes) (hz1 : z.cells = #[z])
    (g n cap : Nat) (xs : List Value) (hg : w.heap[g]? = some (.cells xs.toArray e (0, 0))) (hn : n ≤ cap) (hcap : cap = xs.length) (hmax : cap ≤ maxLen)
    (sa : Option Addr) (m c : Nat) (news : List Value) (hl : news.length = m) (hsrc : 0 < m → ∃ ad, sa = some ad ∧ ∀ j u, news[j]? = some u → w.cell? (ad.add j) = some u) (h1 : ∀ u ∈ news, u.oneCell' = true)
    (h63 : n + m ≤ maxLen) (hbytes : (n + m) * bytes ≤ 140737488355328) :
    ∃ (g' : Nat) (xs' : List Value) (w' : World), (Builtin.append_ #[t, t] ty #[.slice (some ⟨g, 0, none⟩) n cap, .slice sa m c]).run P w = .ok (.slice (some ⟨g', 0, none⟩) (n + m) xs'.length) w' ∧
      w'.heap[g']? = some (.cells xs'.toArray e (0, 0)) ∧ xs'.take (n + m) = xs.take n ++ news ∧ n + m ≤ xs'.length ∧ xs'.length ≤ maxLen ∧ Touch (· = g) w w' ∧ (g' = g ∨ g' = w.heap.size) ∧
      (∀ j, j < n → w'.cell? ⟨g, j, none⟩ = w.cell? ⟨g, j, none⟩) ∧ (n + m ≤ cap → g' = g ∧ xs'.length = cap) := by
  subst hcap
  have hglt : g < w.heap.size := (Array.getElem?_eq_some_iff.1 hg).1
  have hxl : (xs.take n).length = n := by simp; omega
  have hcx : ∀ j, w.cell? ⟨g, j, none⟩ = xs[j]? := by intro j; rw [cell_of_row w g j xs.toArray e (0, 0) hg]; simp
  by_cases hroom : n + m ≤ xs.length
  · obtain ⟨w', hr, hh, e1, e2, e3, e4, e5⟩ := run_app_room (P := P) w t ty e i ht hi hs g n xs.length xs hg hn sa m c news hl hsrc h1 hroom hroom
    have hlen : (xs.take n ++ news ++ xs.drop (n + m)).length = xs.length := by simp [hl]; omega
    refine ⟨g, xs.take n ++ news ++ xs.drop (n + m), w', by rw [hlen]; exact hr, hh, ?_, by rw [hlen]; exact hroom, by rw [hlen]; exact hmax, ⟨e1, e2, e3, by omega, fun k hk hS => e5 k hS⟩, .inl rfl, ?_, fun _ => ⟨rfl, hlen⟩⟩
    · have : n + m = (xs.take n ++ news).length := by simp [hl]; omega
      rw [this]; exact List.take_left
    · intro j hj
      rw [hcx j, cell_of_row w' g j _ e (0, 0) hh, List.getElem?_toArray, List.append_assoc, List.getElem?_append_left (by omega), List.getElem?_take_of_lt hj]
  · obtain ⟨ad, rfl, hnews⟩ := hsrc (by omega)
    have hadd : ∀ j, (⟨g, 0, none⟩ : Addr).add j = ⟨g, j, none⟩ := by intro j; unfold Addr.add; split <;> simp_all
    have holds : ∀ j v, (xs.take n)[j]? = some v → w.cell? ((⟨g, 0, none⟩ : Addr).add j) = some v := by
      intro j v hv
      rw [hadd, hcx j]
      rw [List.getElem?_take] at hv
      split at hv
      · exact hv
      · cases hv
    unfold maxLen at h63
    have hr := run_append_grow (P := P) w t ty e i z ht hi hz ⟨g, 0, none⟩ n xs.length (xs.take n) (by rw [hs, Nat.mul_one]; exact hxl) holds ad m c news (by rw [hs]; omega) hnews (by omega) (by omega) (by rw [hby]; exact growslice_fits (by omega) hbytes)
    have hge := grownCap_ge w (n + m) xs.length e
    have hcm : grownCap w (n + m) xs.length e ≤ maxLen := grownCap_le_maxLen w (n + m) xs.length e (by unfold maxLen; omega)
    obtain ⟨C, hC⟩ : ∃ C, grownCap w (n + m) xs.length e = C := ⟨_, rfl⟩
    rw [hC] at hr hge hcm
    have hzl : (Builtin.zeroCells z.cells (C - (n + m))).size = C - (n + m) := by rw [size_zeroCells, hz1]; simp
    have hlen : (xs.take n ++ news ++ (Builtin.zeroCells z.cells (C - (n + m))).toList).length = C := by simp [hl, hzl]; omega
    have hblk : (w.drew.alloc (.cells ((xs.take n).toArray ++ news.toArray ++ Builtin.zeroCells z.cells (C - (n + m))) e)).heap[w.heap.size]? = some (.cells (xs.take n ++ news ++ (Builtin.zeroCells z.cells (C - (n + m))).toList).toArray e (0, 0)) := by
      have h := heap_alloc_new w.drew (.cells ((xs.take n).toArray ++ news.toArray ++ Builtin.zeroCells z.cells (C - (n + m))) e)
      have hh : w.drew.heap.size = w.heap.size := rfl
      rw [hh] at h
      rw [h]
      congr 2
      apply Array.ext'
      simp
    refine ⟨w.heap.size, xs.take n ++ news ++ (Builtin.zeroCells z.cells (C - (n + m))).toList, _, by rw [hlen]; exact hr, hblk, ?_, by rw [hlen]; exact hge, by rw [hlen]; exact hcm, ⟨rfl, rfl, rfl, by simp, fun k hk _ => Below.heap_alloc w.drew _ k hk⟩, .inr rfl, ?_, fun h => absurd h hroom⟩
    · have : n + m = (xs.take n ++ news).length := by simp [hl]; omega
      rw [this]; exact List.take_left
    · intro j hj
      exact World.cell?_of_block (w := w) (Below.heap_alloc w.drew _ g hglt)

/-- the same as a law for the walk -/
theorem wpList_app {P : Program} {w : World} {ops : Array Oper} {rest : List Oper} {o : Oper} {a : Act} {Q : Exit → Act → World → Prop} (hgd : o.guard = none) (s x : Operand) (t : TypeId)
    (ho : o.op = .call { callee := .builtin .append, args := #[s, x], argTypes := #[t, t] })
    (e : TypeId) (z : Value) (bytes : Nat) (ht : P.underlying t = some (.slice e)) (hinfo : (P.info? e).map (fun i => (i.zero, i.size, i.bytes)) = some (some z, 1, bytes)) (hz1 : z.cells = #[z])
    (g n cap : Nat) (xs : List Value) (hev : a.eval s = .slice (some ⟨g, 0, none⟩) n cap) (hg : w.heap[g]? = some (.cells xs.toArray e (0, 0))) (hn : n ≤ cap) (hcap : cap = xs.length) (hmax : cap ≤ maxLen)
    (sa : Option Addr) (m c : Nat) (news : List Value) (hex : a.eval x = .slice sa m c) (hl : news.length = m) (hsrc : 0 < m → ∃ ad, sa = some ad ∧ ∀ j u, news[j]? = some u → w.cell? (ad.add j) = some u) (h1 : ∀ u ∈ news, u.oneCell' = true)
    (h63 : n + m ≤ maxLen) (hbytes : (n + m) * bytes ≤ 140737488355328)
    (h : ∀ (g' : Nat) (xs' : List Value) (w' : World), Hid (w'.heap[g']? = some (.cells xs'.toArray e (0, 0)) ∧ xs'.take (n + m) = xs.take n ++ news ∧ n + m ≤ xs'.length ∧ xs'.length ≤ maxLen ∧ Touch (· = g) w w' ∧ (g' = g ∨ g' = w.heap.size) ∧
      (∀ j, j < n → w'.cell? ⟨g, j, none⟩ = w.cell? ⟨g, j, none⟩) ∧ (n + m ≤ cap → g' = g ∧ xs'.length = cap)) → wpList P ops Q rest (a.put o.dst (.slice (some ⟨g', 0, none⟩) (n + m) xs'.length)) w') : wpList P ops Q (o :: rest) a w := by
  obtain ⟨i, hi, hzz⟩ := Option.map_eq_some_iff.1 hinfo
  simp only [Prod.mk.injEq] at hzz
  obtain ⟨hz, hs, hb⟩ := hzz
  obtain ⟨g', xs', w', hrun, hrest⟩ := run_app (P := P) w t o.type e i z bytes ht hi hz hs hb hz1 g n cap xs hg hn hcap hmax sa m c news hl hsrc h1 h63 hbytes
  refine wpList_plain hgd fun K hK => ?_
  unfold Oper.wp
  simp [execOp, ho, resolve, invoke, builtin, hev, hex, hrun, Result.andThen]
  exact hK _ _ (h g' xs' w' hrest)
end Go.Proofs.Qxb6606313a
