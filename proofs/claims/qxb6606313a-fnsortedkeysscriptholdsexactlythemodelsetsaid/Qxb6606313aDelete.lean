/-
  slices.Delete of one element, at []string and at [][]string, and slices.Clone at [][]string, walked. Not trusted: the kernel checks it.
-/
import Derived.Test.Qxb6606313aAdd
namespace Go.Proofs.Qxb6606313a
open Go.RowKit Go.Deep
set_option linter.unusedVariables false

/-- append in room, as one step of a region that draws its order -/
theorem step_app_room {P : Program} {w : World} {ops : Array Oper} {o : Oper} {a : Act} {K : Act → World → Prop} {Q : Exit → Act → World → Prop} {E : Prop} (hgd : o.guard = none) (s x : Operand) (t : TypeId)
    (ho : o.op = .call { callee := .builtin .append, args := #[s, x], argTypes := #[t, t] })
    (e : TypeId) (ht : P.underlying t = some (.slice e)) (hsz : (P.info? e).map (·.size) = some 1)
    (g n cap : Nat) (xs : List Value) (hev : a.eval s = .slice (some ⟨g, 0, none⟩) n cap) (hg : w.heap[g]? = some (.cells xs.toArray e (0, 0))) (hn : n ≤ xs.length)
    (sa : Option Addr) (m c : Nat) (news : List Value) (hex : a.eval x = .slice sa m c) (hl : news.length = m) (hsrc : 0 < m → ∃ ad, sa = some ad ∧ ∀ j u, news[j]? = some u → w.cell? (ad.add j) = some u) (h1 : ∀ u ∈ news, u.oneCell' = true)
    (hroom : n + m ≤ cap) (hfit : n + m ≤ xs.length)
    (h : ∀ w', Hid (w'.heap[g]? = some (.cells (xs.take n ++ news ++ xs.drop (n + m)).toArray e (0, 0)) ∧ Same g w w') → K (a.put o.dst (.slice (some ⟨g, 0, none⟩) (n + m) cap)) w') :
    if Region.wanted o (yielded ops a.tmps) = true then Oper.wp P o a w K Q else E := by
  obtain ⟨i, hi, hs⟩ := Option.map_eq_some_iff.1 hsz
  obtain ⟨w', hrun, q1, q2, q3, q4, q5, q6⟩ := run_app_room (P := P) w t o.type e i ht hi hs g n cap xs hg hn sa m c news hl hsrc h1 hroom hfit
  have hw : Region.wanted o (yielded ops a.tmps) = true := by simp [Region.wanted, hgd]
  rw [if_pos hw]
  unfold Oper.wp
  simp [execOp, ho, resolve, invoke, builtin, hev, hex, hrun, Result.andThen]
  exact h w' ⟨q1, q2, q3, q4, q5, q6⟩

/-- append, room or none, as one step of a region that draws its order -/
theorem step_app {P : Program} {w : World} {ops : Array Oper} {o : Oper} {a : Act} {K : Act → World → Prop} {Q : Exit → Act → World → Prop} {E : Prop} (hgd : o.guard = none) (s x : Operand) (t : TypeId)
    (ho : o.op = .call { callee := .builtin .append, args := #[s, x], argTypes := #[t, t] })
    (e : TypeId) (z : Value) (bytes : Nat) (ht : P.underlying t = some (.slice e)) (hinfo : (P.info? e).map (fun i => (i.zero, i.size, i.bytes)) = some (some z, 1, bytes)) (hz1 : z.cells = #[z])
    (g n cap : Nat) (xs : List Value) (hev : a.eval s = .slice (some ⟨g, 0, none⟩) n cap) (hg : w.heap[g]? = some (.cells xs.toArray e (0, 0))) (hn : n ≤ cap) (hcap : cap = xs.length) (hmax : cap ≤ maxLen)
    (sa : Option Addr) (m c : Nat) (news : List Value) (hex : a.eval x = .slice sa m c) (hl : news.length = m) (hsrc : 0 < m → ∃ ad, sa = some ad ∧ ∀ j u, news[j]? = some u → w.cell? (ad.add j) = some u) (h1 : ∀ u ∈ news, u.oneCell' = true)
    (h63 : n + m ≤ maxLen) (hbytes : (n + m) * bytes ≤ 140737488355328)
    (h : ∀ (g' : Nat) (xs' : List Value) (w' : World), Hid (w'.heap[g']? = some (.cells xs'.toArray e (0, 0)) ∧ xs'.take (n + m) = xs.take n ++ news ∧ n + m ≤ xs'.length ∧ xs'.length ≤ maxLen ∧ Touch (· = g) w w' ∧ (g' = g ∨ g' = w.heap.size)) → K (a.put o.dst (.slice (some ⟨g', 0, none⟩) (n + m) xs'.length)) w') :
    if Region.wanted o (yielded ops a.tmps) = true then Oper.wp P o a w K Q else E := by
  obtain ⟨i, hi, hzz⟩ := Option.map_eq_some_iff.1 hinfo
  simp only [Prod.mk.injEq] at hzz
  obtain ⟨hz, hs, hb⟩ := hzz
  obtain ⟨g', xs', w', hrun, q1, q2, q3, q4, q5, q6, q7, q8⟩ := run_app (P := P) w t o.type e i z bytes ht hi hz hs hb hz1 g n cap xs hg hn hcap hmax sa m c news hl hsrc h1 h63 hbytes
  have hw : Region.wanted o (yielded ops a.tmps) = true := by simp [Region.wanted, hgd]
  rw [if_pos hw]
  unfold Oper.wp
  simp [execOp, ho, resolve, invoke, builtin, hev, hex, hrun, Result.andThen]
  exact h g' xs' w' ⟨q1, q2, q3, q4, q5, q6⟩

/-- what slices.Delete of one element leaves -/
def DelAfter (e : TypeId) (w : World) (g n : Nat) (xs : List Value) (i : Nat) (xs' : List Value) (w' : World) : Prop :=
  w'.heap[g]? = some (.cells xs'.toArray e (0, 0)) ∧ xs'.take (n - 1) = (xs.take n).eraseIdx i ∧ xs'.length = xs.length ∧ Touch (· = g) w w'
def DelPost (e : TypeId) (w : World) (g n : Nat) (xs : List Value) (i : Nat) (en : Ending) (w' : World) : Prop :=
  ∃ xs', en = .returned (.slice (some ⟨g, 0, none⟩) (n - 1) xs'.length) ∧ DelAfter e w g n xs i xs' w'

theorem del_plain (xs : List Value) (n i : Nat) (z : Value) (hn : n ≤ xs.length) (hi : i < n) :
    (splice (xs.take i ++ (xs.take n).drop (i + 1) ++ xs.drop (i + (n - (i + 1)))) (n - 1) (List.replicate 1 z)).length = xs.length ∧
    (splice (xs.take i ++ (xs.take n).drop (i + 1) ++ xs.drop (i + (n - (i + 1)))) (n - 1) (List.replicate 1 z)).take (n - 1) = (xs.take n).eraseIdx i := by
  have l1 : (xs.take i ++ (xs.take n).drop (i + 1)).length = n - 1 := by simp; omega
  have e1 : (xs.take n).eraseIdx i = xs.take i ++ (xs.take n).drop (i + 1) := by
    rw [List.eraseIdx_eq_take_drop_succ, List.take_take, Nat.min_eq_left (by omega)]
  rw [splice_at _ _ _ (n - 1) l1, e1]
  refine ⟨?_, ?_⟩
  · rw [List.length_append, l1]; simp; omega
  · rw [← l1]; exact List.take_left

set_option maxHeartbeats 1000000 in
theorem del37 (g n cap i : Nat) (xs : List Value) (w : World) (hg : w.heap[g]? = some (.cells xs.toArray 9 (0, 0))) (hn : n ≤ cap) (hcap : cap = xs.length) (hmax : cap ≤ maxLen) (hi : i < n) (hn2 : n ≤ 1000000)
    (h1 : ∀ u ∈ xs.take n, u.oneCell' = true) :
    Calls Try.prog 37 #[.slice (some ⟨g, 0, none⟩) n cap, .int .i64 i, .int .i64 ((i : Int) + 1)] w (DelPost 9 w g n xs i) := by
  subst hcap
  unfold maxLen at hmax
  obtain ⟨m, rfl⟩ : ∃ m, n = m + 1 := ⟨n - 1, by omega⟩
  have q4 : ((i : Int) + 1).toNat = i + 1 := by omega
  have hb1 : (0 : Int) ≤ (i : Int) + 1 := by omega
  have hb2 : (i : Int) + 1 ≤ (m : Int) + 1 := by omega
  have hb3 : (i : Int) ≤ (m : Int) + 1 := by omega
  have hz : ((i : Int) == (i : Int) + 1) = false := by simp; omega
  have hb5 : i ≤ xs.length := by omega
  have hlen : ((xs.take (m + 1)).drop (i + 1)).length = m + 1 - (i + 1) := by simp; omega
  have hs1 : Hid (0 < m + 1 - (i + 1) → ∃ ad, some (⟨g, i + 1, none⟩ : Addr) = some ad ∧ ∀ j v, ((xs.take (m + 1)).drop (i + 1))[j]? = some v → w.drew.cell? (ad.add j) = some v) := by
    intro _
    refine ⟨_, rfl, fun j v hj => ?_⟩
    rw [Addr.add_lit]
    show w.cell? _ = _
    rw [cell_of_row w g (i + 1 + j) xs.toArray 9 (0, 0) hg, List.getElem?_toArray]
    rw [List.getElem?_drop, List.getElem?_take] at hj
    split at hj
    · exact hj
    · cases hj
  have hs2 : Hid (∀ v ∈ (xs.take (m + 1)).drop (i + 1), v.oneCell' = true) := fun v hv => h1 v (List.mem_of_mem_drop hv)
  have HG : Hid (w.drew.heap[g]? = some (.cells xs.toArray 9 (0, 0))) := hg
  have HP := hide (del_plain xs (m + 1) i (.string ByteArray.empty) hn hi)
  obtain ⟨D, hD⟩ : ∃ D, (xs.take (m + 1)).drop (i + 1) = D := ⟨_, rfl⟩
  rw [hD] at hs1 hs2 hlen HP
  have HL := hide hlen
  clear hD hg h1 hlen
  have HX := hide (Nat.lt_of_lt_of_le hi hn)
  have HN := hide hn
  have HI := hide hi
  have e1 : i + (m + 1 - (i + 1)) = m := by omega
  rw [e1] at HP
  by_cases hc : xs.length = i + 1
  case' pos =>
    obtain rfl : m = i := by omega
    have HC := hide hc
    obtain ⟨cap, hcap⟩ : ∃ cap, xs.length = cap := ⟨_, rfl⟩
    have hcap0 := hcap
    rw [hcap]
    rw [hcap] at hc hmax hb5
    subst hc
    have hb6 : (m : Int) ≤ (m : Int) + 1 := by omega
    have HCap := hide hcap0
    clear hcap hcap0
    go_enter Try.func37, Try.ntmps37
    go_wp2
    go_region_law (refine step_app_room rfl (.tmp 22) (.tmp 25) 22 rfl 9 Try.underlying22 Try.sz9 g m (m + 1) xs (by simp [Act.eval, Act.put]) HG.out (by have := HCap.out; omega) (some ⟨g, 0, none⟩) 0 0 D (by simp [Act.eval, Act.put]) (by rw [HL.out]; omega) (fun h => absurd h (by omega)) hs2.out (by omega) (by have := HCap.out; omega) ?_; intro w2 H2)
    have H2 : Hid (w2.heap[g]? = some (.cells (xs.take m ++ D ++ xs.drop m).toArray 9 (0, 0)) ∧ Same g w.drew w2) := H2
    obtain ⟨m1, m2, m3⟩ := run_clr (P := Try.prog) w2 22 9 (.string ByteArray.empty) Try.underlying22 (fun w => by kernel_rfl) rfl rfl g m 1 1 (by omega) _ H2.out.1 (by have := HL.out; have := HCap.out; simp; omega)
    obtain ⟨w3, hw3⟩ : ∃ w3, clrW w2 g (xs.take m ++ D ++ xs.drop m) m 1 (.string ByteArray.empty) = w3 := ⟨_, rfl⟩
    rw [hw3] at m1 m2 m3
  case' neg =>
    go_enter Try.func37, Try.ntmps37
    go_wp2
    go_region_law (refine step_app_room rfl (.tmp 22) (.tmp 25) 22 rfl 9 Try.underlying22 Try.sz9 g i xs.length xs (by simp [Act.eval, Act.put]) HG.out (by omega) (some ⟨g, i + 1, none⟩) (m + 1 - (i + 1)) (xs.length - (i + 1)) D (by simp [Act.eval, Act.put]) HL.out hs1.out hs2.out (by omega) (by omega) ?_; intro w2 H2)
    rw [e1] at H2
    obtain ⟨m1, m2, m3⟩ := run_clr (P := Try.prog) w2 22 9 (.string ByteArray.empty) Try.underlying22 (fun w => by kernel_rfl) rfl rfl g m 1 (xs.length - m) (by omega) _ H2.out.1 (by have := HL.out; simp; omega)
    obtain ⟨w3, hw3⟩ : ∃ w3, clrW w2 g (xs.take i ++ D ++ xs.drop m) m 1 (.string ByteArray.empty) = w3 := ⟨_, rfl⟩
    rw [hw3] at m1 m2 m3
    have e2 : i + (m - i) = m := by omega
    simp only [e2]
  all_goals
    have M2 := hide m2
    have M3 := hide m3
    have hcm : ((m : Int) + 1).toNat = m + 1 := by omega
    have hcm2 : (m : Int) ≤ (m : Int) + 1 := by omega
    clear m2 m3 hw3
    go_wp2
    go_ret
    have R := HP.out
    simp only [Nat.add_sub_cancel] at R
    refine ⟨_, ?_, M2.out, R.2, R.1, (H2.out.2.touch.ofDrew).trans M3.out.touch⟩
    first
      | (rw [R.1, HCap.out]; rfl)
      | (rw [R.1]; rfl)
set_option maxHeartbeats 1000000 in
theorem del44 (g n cap i : Nat) (xs : List Value) (w : World) (hg : w.heap[g]? = some (.cells xs.toArray 22 (0, 0))) (hn : n ≤ cap) (hcap : cap = xs.length) (hmax : cap ≤ maxLen) (hi : i < n) (hn2 : n ≤ 1000000)
    (h1 : ∀ u ∈ xs.take n, u.oneCell' = true) :
    Calls Try.prog 44 #[.slice (some ⟨g, 0, none⟩) n cap, .int .i64 i, .int .i64 ((i : Int) + 1)] w (DelPost 22 w g n xs i) := by
  subst hcap
  unfold maxLen at hmax
  obtain ⟨m, rfl⟩ : ∃ m, n = m + 1 := ⟨n - 1, by omega⟩
  have q4 : ((i : Int) + 1).toNat = i + 1 := by omega
  have hb1 : (0 : Int) ≤ (i : Int) + 1 := by omega
  have hb2 : (i : Int) + 1 ≤ (m : Int) + 1 := by omega
  have hb3 : (i : Int) ≤ (m : Int) + 1 := by omega
  have hz : ((i : Int) == (i : Int) + 1) = false := by simp; omega
  have hb5 : i ≤ xs.length := by omega
  have hlen : ((xs.take (m + 1)).drop (i + 1)).length = m + 1 - (i + 1) := by simp; omega
  have hs1 : Hid (0 < m + 1 - (i + 1) → ∃ ad, some (⟨g, i + 1, none⟩ : Addr) = some ad ∧ ∀ j v, ((xs.take (m + 1)).drop (i + 1))[j]? = some v → w.drew.cell? (ad.add j) = some v) := by
    intro _
    refine ⟨_, rfl, fun j v hj => ?_⟩
    rw [Addr.add_lit]
    show w.cell? _ = _
    rw [cell_of_row w g (i + 1 + j) xs.toArray 22 (0, 0) hg, List.getElem?_toArray]
    rw [List.getElem?_drop, List.getElem?_take] at hj
    split at hj
    · exact hj
    · cases hj
  have hs2 : Hid (∀ v ∈ (xs.take (m + 1)).drop (i + 1), v.oneCell' = true) := fun v hv => h1 v (List.mem_of_mem_drop hv)
  have HG : Hid (w.drew.heap[g]? = some (.cells xs.toArray 22 (0, 0))) := hg
  have HP := hide (del_plain xs (m + 1) i (.slice none 0 0) hn hi)
  obtain ⟨D, hD⟩ : ∃ D, (xs.take (m + 1)).drop (i + 1) = D := ⟨_, rfl⟩
  rw [hD] at hs1 hs2 hlen HP
  have HL := hide hlen
  clear hD hg h1 hlen
  have HX := hide (Nat.lt_of_lt_of_le hi hn)
  have HN := hide hn
  have HI := hide hi
  have e1 : i + (m + 1 - (i + 1)) = m := by omega
  rw [e1] at HP
  by_cases hc : xs.length = i + 1
  case' pos =>
    obtain rfl : m = i := by omega
    have HC := hide hc
    obtain ⟨cap, hcap⟩ : ∃ cap, xs.length = cap := ⟨_, rfl⟩
    have hcap0 := hcap
    rw [hcap]
    rw [hcap] at hc hmax hb5
    subst hc
    have hb6 : (m : Int) ≤ (m : Int) + 1 := by omega
    have HCap := hide hcap0
    clear hcap hcap0
    go_enter Try.func44, Try.ntmps44
    go_wp2
    go_region_law (refine step_app_room rfl (.tmp 22) (.tmp 25) 32 rfl 22 Try.underlying32 Try.sz22 g m (m + 1) xs (by simp [Act.eval, Act.put]) HG.out (by have := HCap.out; omega) (some ⟨g, 0, none⟩) 0 0 D (by simp [Act.eval, Act.put]) (by rw [HL.out]; omega) (fun h => absurd h (by omega)) hs2.out (by omega) (by have := HCap.out; omega) ?_; intro w2 H2)
    have H2 : Hid (w2.heap[g]? = some (.cells (xs.take m ++ D ++ xs.drop m).toArray 22 (0, 0)) ∧ Same g w.drew w2) := H2
    obtain ⟨m1, m2, m3⟩ := run_clr (P := Try.prog) w2 32 22 (.slice none 0 0) Try.underlying32 (fun w => by kernel_rfl) rfl rfl g m 1 1 (by omega) _ H2.out.1 (by have := HL.out; have := HCap.out; simp; omega)
    obtain ⟨w3, hw3⟩ : ∃ w3, clrW w2 g (xs.take m ++ D ++ xs.drop m) m 1 (.slice none 0 0) = w3 := ⟨_, rfl⟩
    rw [hw3] at m1 m2 m3
  case' neg =>
    go_enter Try.func44, Try.ntmps44
    go_wp2
    go_region_law (refine step_app_room rfl (.tmp 22) (.tmp 25) 32 rfl 22 Try.underlying32 Try.sz22 g i xs.length xs (by simp [Act.eval, Act.put]) HG.out (by omega) (some ⟨g, i + 1, none⟩) (m + 1 - (i + 1)) (xs.length - (i + 1)) D (by simp [Act.eval, Act.put]) HL.out hs1.out hs2.out (by omega) (by omega) ?_; intro w2 H2)
    rw [e1] at H2
    obtain ⟨m1, m2, m3⟩ := run_clr (P := Try.prog) w2 32 22 (.slice none 0 0) Try.underlying32 (fun w => by kernel_rfl) rfl rfl g m 1 (xs.length - m) (by omega) _ H2.out.1 (by have := HL.out; simp; omega)
    obtain ⟨w3, hw3⟩ : ∃ w3, clrW w2 g (xs.take i ++ D ++ xs.drop m) m 1 (.slice none 0 0) = w3 := ⟨_, rfl⟩
    rw [hw3] at m1 m2 m3
    have e2 : i + (m - i) = m := by omega
    simp only [e2]
  all_goals
    have M2 := hide m2
    have M3 := hide m3
    have hcm : ((m : Int) + 1).toNat = m + 1 := by omega
    have hcm2 : (m : Int) ≤ (m : Int) + 1 := by omega
    clear m2 m3 hw3
    go_wp2
    go_ret
    have R := HP.out
    simp only [Nat.add_sub_cancel] at R
    refine ⟨_, ?_, M2.out, R.2, R.1, (H2.out.2.touch.ofDrew).trans M3.out.touch⟩
    first
      | (rw [R.1, HCap.out]; rfl)
      | (rw [R.1]; rfl)
set_option maxHeartbeats 1000000 in
theorem cl45 (sa : Option Addr) (n cap : Nat) (news : List Value) (w : World) (hl : news.length = n) (hn : n ≤ 1000000) (hsa : sa ≠ none)
    (hsrc : 0 < n → ∃ ad, sa = some ad ∧ ad.block < w.heap.size ∧ ∀ j u, news[j]? = some u → w.cell? (ad.add j) = some u) (h1 : ∀ u ∈ news, u.oneCell' = true) :
    Calls Try.prog 45 #[.slice sa n cap] w (ClPost 22 w news) := by
  have hnil := fun w : World => Lib.run_eql_slice_nil (P := Try.prog) w 32 22 sa n cap 0 0 Try.underlying32
  have hsn : sa.isNone = false := by cases sa with
    | none => exact absurd rfl hsa
    | some _ => rfl
  rw [hsn] at hnil
  have H1 := hide h1
  have HS : Hid (0 < n → ∃ ad, sa = some ad ∧ ∀ j u, news[j]? = some u → (w.alloc (.cells #[] 22)).cell? (ad.add j) = some u) := by
    intro h
    obtain ⟨ad, h1, h2, h3⟩ := hsrc h
    refine ⟨ad, h1, fun j u hu => ?_⟩
    have hb : (ad.add j).block < w.heap.size := by unfold Addr.add; split <;> exact h2
    rw [World.cell?_alloc_lt _ _ _ hb]; exact h3 j u hu
  clear h1 hsn hsa hsrc
  go_enter Try.func45, Try.ntmps45
  go_wp2_with (at_builtin; refine wpList_app rfl (.tmp 5) (.tmp 6) 32 rfl 22 (.slice none 0 0) 24 Try.underlying32 Try.info22 rfl w.heap.size 0 0 [] rfl (Go.heap_alloc_new w _) (Nat.le_refl _) rfl (Nat.zero_le _) sa n cap news rfl hl HS.out H1.out (by unfold maxLen; omega) (by omega) ?_; intro g1 xs1 w1 A1)
  go_ret
  obtain ⟨q1, q2, q3, q4, q5, q6, q7, q8⟩ := A1.out
  rw [Nat.zero_add] at q2 q3
  simp only [World.size_alloc] at q6
  refine ⟨g1, xs1, by rw [hl]; simp, q1, by rw [hl, q2]; simp, by rw [hl]; exact q3, q4, ?_, by omega⟩
  exact ((Below.refl _ w).alloc (Nat.le_refl _) _).trans (q5.below (fun k hk e => by omega) (by simp))
end Go.Proofs.Qxb6606313a
