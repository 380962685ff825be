/-
  slices.Insert of one element, at []string and at [][]string, walked: every road. Not trusted: the kernel checks it.
-/
import Derived.Test.Qxb6606313aSearch
import Derived.Test.Qxb6606313aCopy
import Derived.Deep.RegionLaw
namespace Go.Proofs.Qxb6606313a
open Go.RowKit Go.Deep
set_option linter.unusedVariables false

theorem Try.info9 : (Try.prog.info? 9).map (fun i => (i.zero, i.size, i.bytes)) = some (some (.string ByteArray.empty), 1, 16) := by kernel_rfl
theorem Try.sz9 : (Try.prog.info? 9).map (·.size) = some 1 := by kernel_rfl

/-- what slices.Insert of one element leaves -/
def InsAfter (e : TypeId) (w : World) (g n : Nat) (xs : List Value) (i : Nat) (x : Value) (g' : Nat) (xs' : List Value) (w' : World) : Prop :=
  w'.heap[g']? = some (.cells xs'.toArray e (0, 0)) ∧ xs'.take (n + 1) = (xs.take n).take i ++ x :: (xs.take n).drop i ∧ n + 1 ≤ xs'.length ∧ xs'.length ≤ maxLen ∧ Touch (· = g) w w' ∧ (g' = g ∨ w.heap.size ≤ g')
def InsPost (e : TypeId) (w : World) (g n : Nat) (xs : List Value) (i : Nat) (x : Value) (en : Ending) (w' : World) : Prop :=
  ∃ g' xs', en = .returned (.slice (some ⟨g', 0, none⟩) (n + 1) xs'.length) ∧ InsAfter e w g n xs i x g' xs' w'

theorem ov33 (vb b off : Nat) (lb cb : Nat) (w : World) (xs : List Value) (x : Value) (hvb : vb ≠ b) (hv : w.heap[vb]? = some (.cells #[x] 9 (0, 0))) (hb : w.heap[b]? = some (.cells xs.toArray 9 (0, 0))) (hx : xs.length ≠ 0) :
    (callFunc 33 #[.slice (some ⟨vb, 0, none⟩) 1 1, .slice (some ⟨b, off, none⟩) lb cb]).run Try.prog w = .ok (.value (.bool false)) w := by
  rw [run_callFunc_extern Try.func33 (by kernel_rfl) (by kernel_rfl) (by kernel_rfl) (e := Extern.SlicesOverlaps.overlaps #[22, 22] #[4]) (by kernel_rfl),
    Lib.run_overlaps_apart w 22 4 9 Try.underlying22 1 (fun w => by kernel_rfl) ⟨vb, 0, none⟩ ⟨b, off, none⟩ 1 1 lb cb hvb 9 9 1 xs.length (by simp [World.shape?, hv]) (by simp [World.shape?, hb]) hx (by simp [World.frozen?, hv]) (by simp [World.frozen?, hv])]
  rfl

theorem ins_end (xs : List Value) (i : Nat) (x : Value) : xs.take i ++ [x] = (xs.take i).take i ++ x :: (xs.take i).drop i := by
  rw [List.take_take, Nat.min_self, List.drop_eq_nil_of_le (by simp; omega)]

theorem ins_room (xs : List Value) (n i : Nat) (x : Value) (hn : n + 1 ≤ xs.length) (hi : i < n) :
    (splice (splice xs (i + 1) ((xs.take n).drop i)) i [x]).length = xs.length ∧ (splice (splice xs (i + 1) ((xs.take n).drop i)) i [x]).take (n + 1) = (xs.take n).take i ++ x :: (xs.take n).drop i := by
  have l1 : ((xs.take n).drop i).length = n - i := by simp; omega
  have h1 : splice xs (i + 1) ((xs.take n).drop i) = xs.take (i + 1) ++ ((xs.take n).drop i ++ xs.drop (n + 1)) := by
    unfold splice; rw [l1, show i + 1 + (n - i) = n + 1 from by omega]
  have h2 : (xs.take (i + 1) ++ ((xs.take n).drop i ++ xs.drop (n + 1))).take i = (xs.take n).take i := by
    rw [List.take_append_of_le_length (by simp; omega), List.take_take, List.take_take, Nat.min_eq_left (by omega), Nat.min_eq_left (by omega)]
  have h3 : (xs.take (i + 1) ++ ((xs.take n).drop i ++ xs.drop (n + 1))).drop (i + 1) = (xs.take n).drop i ++ xs.drop (n + 1) := by
    rw [List.drop_append_of_le_length (by simp; omega), List.drop_eq_nil_of_le (by simp; omega), List.nil_append]
  have h4 : splice (splice xs (i + 1) ((xs.take n).drop i)) i [x] = ((xs.take n).take i ++ x :: (xs.take n).drop i) ++ xs.drop (n + 1) := by
    rw [h1]
    conv => lhs; unfold splice
    rw [h2]
    show _ ++ ([x] ++ (_ : List Value).drop (i + 1)) = _
    rw [h3]; simp
  have l2 : ((xs.take n).take i ++ x :: (xs.take n).drop i).length = n + 1 := by
    rw [List.length_append, List.length_cons, l1]; simp; omega
  rw [h4]
  refine ⟨by rw [List.length_append, l2]; simp; omega, ?_⟩
  rw [← l2]; exact List.take_left

theorem splice_at {α : Type} (A B D : List α) (k : Nat) (hk : A.length = k) : splice (A ++ B) k D = A ++ (D ++ B.drop D.length) := by
  subst hk
  unfold splice
  rw [List.take_left, ← List.drop_drop, List.drop_left]

theorem ins_grow (xs : List Value) (n i C : Nat) (x z : Value) (hn : n ≤ xs.length) (hi : i < n) (hC : n + 1 ≤ C) :
    (splice (splice (xs.take i ++ List.replicate (C - i) z) i [x]) (i + 1) ((xs.take n).drop i)).length = C ∧ (splice (splice (xs.take i ++ List.replicate (C - i) z) i [x]) (i + 1) ((xs.take n).drop i)).take (n + 1) = (xs.take n).take i ++ x :: (xs.take n).drop i := by
  have l0 : (xs.take i).length = i := by simp; omega
  have l1 : ((xs.take n).drop i).length = n - i := by simp; omega
  have h0 : (xs.take n).take i = xs.take i := by rw [List.take_take, Nat.min_eq_left (by omega)]
  have h1 : splice (xs.take i ++ List.replicate (C - i) z) i [x] = (xs.take i ++ [x]) ++ List.replicate (C - i - 1) z := by
    rw [splice_at _ _ _ i l0]; simp
  have h2 : splice ((xs.take i ++ [x]) ++ List.replicate (C - i - 1) z) (i + 1) ((xs.take n).drop i) = ((xs.take n).take i ++ x :: (xs.take n).drop i) ++ List.replicate (C - (n + 1)) z := by
    rw [splice_at _ _ _ (i + 1) (by simp; omega), l1, h0, List.drop_replicate, show C - i - 1 - (n - i) = C - (n + 1) from by omega]; simp
  have l2 : ((xs.take n).take i ++ x :: (xs.take n).drop i).length = n + 1 := by
    rw [List.length_append, List.length_cons, l1]; simp; omega
  rw [h1, h2]
  refine ⟨by rw [List.length_append, l2]; simp; omega, ?_⟩
  rw [← l2]; exact List.take_left

set_option maxHeartbeats 1000000 in
theorem ins25 (g n cap i vb : Nat) (xs : List Value) (x : Value) (w : World) (hg : w.heap[g]? = some (.cells xs.toArray 9 (0, 0))) (hn : n ≤ cap) (hcap : cap = xs.length) (hmax : cap ≤ maxLen) (hi : i ≤ n) (hn2 : n ≤ 1000000)
    (hv : w.heap[vb]? = some (.cells #[x] 9 (0, 0))) (hvg : vb ≠ g) (h1 : ∀ u ∈ xs.take n, u.oneCell' = true) (hx1 : x.oneCell' = true) :
    Calls Try.prog 25 #[.slice (some ⟨g, 0, none⟩) n cap, .int .i64 i, .slice (some ⟨vb, 0, none⟩) 1 1] w (InsPost 9 w g n xs i x) := by
  subst hcap
  unfold maxLen at hmax
  have hcv : w.cell? ⟨vb, 0, none⟩ = some x := by rw [cell_of_row w vb 0 _ _ _ hv]; rfl
  have hsrcv : Hid (0 < 1 → ∃ ad, some (⟨vb, 0, none⟩ : Addr) = some ad ∧ ∀ j u, ([x] : List Value)[j]? = some u → w.cell? (ad.add j) = some u) := by
    intro _
    refine ⟨_, rfl, fun j u hu => ?_⟩
    have hj : j = 0 := by have := (List.getElem?_eq_some_iff.1 hu).1; simp at this; omega
    subst hj
    simp at hu; subst hu
    simpa [Addr.add] using hcv
  have HX1 : Hid (∀ u ∈ ([x] : List Value), u.oneCell' = true) := by intro u hu; simp at hu; subst hu; exact hx1
  by_cases hin : i = n
  · subst hin
    have hcm : xs.length ≤ maxLen := by unfold maxLen; omega
    go_enter Try.func25, Try.ntmps25
    go_wp2_with (at_builtin; refine wpList_app rfl (.tmp 23) (.tmp 24) 22 rfl 9 (.string ByteArray.empty) 16 Try.underlying22 Try.info9 rfl g i xs.length xs rfl hg hn rfl hcm (some ⟨vb, 0, none⟩) 1 1 [x] rfl rfl hsrcv.out HX1.out (by unfold maxLen; omega) (by omega) ?_; intro g1 xs1 w1 H1)
    all_goals go_ret
    all_goals exact ⟨g1, xs1, rfl, H1.out.1, by rw [H1.out.2.1]; exact ins_end xs i x, H1.out.2.2.1, H1.out.2.2.2.1, H1.out.2.2.2.2.1, by rcases H1.out.2.2.2.2.2.1 with h | h; exact .inl h; exact .inr (Nat.le_of_eq h.symm)⟩
  · have hz : ((i : Int) == (n : Int)) = false := by simp; omega
    have hlt : i < n := by omega
    by_cases hroom : n + 1 ≤ xs.length
    · have hov := fun lb cb => ov33 vb g (i + 1) lb cb w xs x hvg hv hg (by omega)
      have q1 : ¬ (xs.length = i + 1) := by omega
      have q2 : ¬ (xs.length = i) := by omega
      have q3 : ((n : Int) + 1).toNat = n + 1 := by omega
      have q4 : ((i : Int) + 1).toNat = i + 1 := by omega
      have hw1 : IntKind.i64.wrap ((i : Int) + 1) = (i : Int) + 1 := by rw [IntKind.wrap_i64]; omega
      have hb1 : (0 : Int) ≤ (i : Int) + 1 := by omega
      have hb2 : (i : Int) + 1 ≤ (n : Int) + 1 := by omega
      have hb3 : (i : Int) ≤ (n : Int) + 1 := by omega
      have hb4 : i ≤ n := by omega
      have hlen : ((xs.take n).drop i).length = n - i := by simp; omega
      have hs1 : Hid (0 < ((xs.take n).drop i).length → ∃ ad, some (⟨g, i, none⟩ : Addr) = some ad ∧ ∀ j v, ((xs.take n).drop i)[j]? = some v → w.drew.cell? (ad.add j) = some v) := by
        intro _
        refine ⟨_, rfl, fun j v hj => ?_⟩
        rw [Addr.add_lit]
        show w.cell? _ = _
        rw [cell_of_row w g (i + j) xs.toArray 9 (0, 0) hg, List.getElem?_toArray]
        rw [List.getElem?_drop, List.getElem?_take] at hj
        split at hj
        · exact hj
        · cases hj
      have hs2 : Hid (∀ v ∈ (xs.take n).drop i, v.oneCell' = true) := fun v hv => h1 v (List.mem_of_mem_drop hv)
      have HG : Hid (w.drew.heap[g]? = some (.cells xs.toArray 9 (0, 0))) := hg
      obtain ⟨D, hD⟩ : ∃ D, (xs.take n).drop i = D := ⟨_, rfl⟩
      rw [hD] at hs1 hs2 hlen
      have HD := hide hD
      have HV := hide hv
      clear hD hv hg hcv h1
      go_enter Try.func25, Try.ntmps25
      go_wp2
      go_region_law (refine step_cp rfl (.tmp 73) (.tmp 76) 22 rfl 9 Try.underlying22 Try.sz9 g (i + 1) (n + 1 - (i + 1)) (xs.length - (i + 1)) (some ⟨g, i, none⟩) (n + 1 - i) (xs.length - i) (by simp [Act.eval, Act.put]) (by simp [Act.eval, Act.put]) xs HG.out D (by rw [hlen]; simp only [Nat.min_def]; split <;> omega) hs1.out (by omega) hs2.out ?_; intro w2 H2)
      have hs3 : Hid (0 < ([x] : List Value).length → ∃ ad, some (⟨vb, 0, none⟩ : Addr) = some ad ∧ ∀ j u, ([x] : List Value)[j]? = some u → w2.cell? (ad.add j) = some u) := by
        intro _
        obtain ⟨ad, had, hh⟩ := hsrcv.out (by omega)
        refine ⟨ad, had, fun j u hu => ?_⟩
        have hj : j = 0 := by have := (List.getElem?_eq_some_iff.1 hu).1; simp at this; omega
        subst hj
        have := hh 0 u hu
        rw [Option.some.injEq] at had
        subst had
        rw [← this]
        exact World.cell?_of_block (w := w) (H2.out.2.block vb hvg)
      have hmn : ([x] : List Value).length = Nat.min 1 (n + 1 - i) := by show 1 = min 1 (n + 1 - i); omega
      have hl2 : i + 1 ≤ (splice xs (i + 1) D).length := by rw [length_splice _ _ _ (by omega)]; omega
      obtain ⟨w3, hcp, hh3⟩ := run_cp (P := Try.prog) w2 22 3 9 Try.underlying22 Try.sz9 g i (n + 1 - i) (xs.length - i) (some ⟨vb, 0, none⟩) 1 1 (splice xs (i + 1) D) H2.out.1 [x] hmn hs3.out hl2 HX1.out
      have H3 := hide hh3
      clear hh3 hl2 hs3 hmn hlen
      go_wp2
      go_ret
      have R := ins_room xs n i x hroom hlt
      rw [HD.out] at R
      refine ⟨g, splice (splice xs (i + 1) D) i [x], by rw [R.1]; rfl, H3.out.1, ?_, by rw [R.1]; exact hroom, by rw [R.1]; unfold maxLen; omega, (H2.out.2.touch.ofDrew).trans H3.out.2.touch, .inl rfl⟩
      rw [R.2, HD.out]
    · have hglt : g < w.heap.size := (Array.getElem?_eq_some_iff.1 hg).1
      have hvlt : vb < w.heap.size := (Array.getElem?_eq_some_iff.1 hv).1
      obtain ⟨i0, hi0, hzz0⟩ := Option.map_eq_some_iff.1 Try.info9
      simp only [Prod.mk.injEq] at hzz0
      obtain ⟨C, hC1, hC2, hrun⟩ := run_appz (P := Try.prog) w 22 3 22 9 i0 (.string ByteArray.empty) 16 Try.underlying22 Try.underlying3 hi0 hzz0.1 hzz0.2.1 hzz0.2.2 rfl g i xs.length xs hg (by omega) (n + 1 - i) (by omega) (by omega) (by omega) (by unfold maxLen; omega)
      rw [show i + (n + 1 - i) = n + 1 from by omega] at hrun hC1
      rw [show ((n + 1 - i : Nat) : Int) = (n : Int) + 1 - (i : Int) from by omega] at hrun
      obtain ⟨W1, hW1⟩ : ∃ W1, w.drew.alloc (.cells (xs.take i ++ List.replicate (C - i) (Value.string ByteArray.empty)).toArray 9) = W1 := ⟨_, rfl⟩
      rw [hW1] at hrun
      have T1 : Touch (· = g) w W1 := by rw [← hW1]; exact (Touch.refl _ w).drew.alloc _
      have hG1 : W1.heap[w.heap.size]? = some (.cells (xs.take i ++ List.replicate (C - i) (Value.string ByteArray.empty)).toArray 9 (0, 0)) := by rw [← hW1]; exact Go.heap_alloc_new w.drew _
      have hO1 : ∀ k, k < w.heap.size → W1.heap[k]? = w.heap[k]? := fun k hk => by rw [← hW1]; exact Below.heap_alloc w.drew _ k hk
      have hz1 : W1.heap.size = w.heap.size + 1 := by rw [← hW1]; exact World.size_alloc w.drew _
      have hxl : (xs.take i ++ List.replicate (C - i) (Value.string ByteArray.empty)).length = C := by simp; omega
      have hs3 : 0 < ([x] : List Value).length → ∃ ad, some (⟨vb, 0, none⟩ : Addr) = some ad ∧ ∀ j u, ([x] : List Value)[j]? = some u → W1.cell? (ad.add j) = some u := by
        intro _
        refine ⟨_, rfl, fun j u hu => ?_⟩
        have hj : j = 0 := by have := (List.getElem?_eq_some_iff.1 hu).1; simp at this; omega
        subst hj
        simp at hu; subst hu
        rw [show (⟨vb, 0, none⟩ : Addr).add 0 = ⟨vb, 0, none⟩ from rfl, ← hcv]
        exact World.cell?_of_block (w := w) (hO1 vb hvlt)
      obtain ⟨w2, hcp, hh2⟩ := run_cp (P := Try.prog) W1 22 3 9 Try.underlying22 Try.sz9 w.heap.size i (n + 1 - i) (C - i) (some ⟨vb, 0, none⟩) 1 1 (xs.take i ++ List.replicate (C - i) (Value.string ByteArray.empty)) hG1 [x] (by show 1 = min 1 (n + 1 - i); omega) hs3 (by rw [hxl]; show i + 1 ≤ C; omega) HX1.out
      have hlen : ((xs.take n).drop i).length = n - i := by simp; omega
      have hs4 : Hid (0 < ((xs.take n).drop i).length → ∃ ad, some (⟨g, i, none⟩ : Addr) = some ad ∧ ∀ j v, ((xs.take n).drop i)[j]? = some v → w2.drew.cell? (ad.add j) = some v) := by
        intro _
        refine ⟨_, rfl, fun j v hj => ?_⟩
        rw [Addr.add_lit]
        show w2.cell? _ = _
        rw [World.cell?_of_block (w := w) (w' := w2) (a := ⟨g, i + j, none⟩) ((hh2.2.block g (by omega)).trans (hO1 g hglt)), cell_of_row w g (i + j) xs.toArray 9 (0, 0) hg, List.getElem?_toArray]
        rw [List.getElem?_drop, List.getElem?_take] at hj
        split at hj
        · exact hj
        · cases hj
      have hs5 : Hid (∀ v ∈ (xs.take n).drop i, v.oneCell' = true) := fun v hv => h1 v (List.mem_of_mem_drop hv)
      have H2 := hide hh2
      have HG2 : Hid (w2.drew.heap[w.heap.size]? = some (.cells (splice (xs.take i ++ List.replicate (C - i) (Value.string ByteArray.empty)) i [x]).toArray 9 (0, 0))) := hh2.1
      have hl2 : i + 1 + (n - i) ≤ (splice (xs.take i ++ List.replicate (C - i) (Value.string ByteArray.empty)) i [x]).length := by
        rw [length_splice _ _ _ (by rw [hxl]; show i + 1 ≤ C; omega), hxl]; omega
      have R := hide (ins_grow xs n i C x (.string ByteArray.empty) (by omega) hlt hC1)
      have HT1 := hide T1
      have hHz : w.heap.size ≠ g := by omega
      obtain ⟨D, hD⟩ : ∃ D, (xs.take n).drop i = D := ⟨_, rfl⟩
      rw [hD] at hs4 hs5 hlen R
      obtain ⟨X1, hX1⟩ : ∃ X1, splice (xs.take i ++ List.replicate (C - i) (Value.string ByteArray.empty)) i [x] = X1 := ⟨_, rfl⟩
      rw [hX1] at HG2 hl2 R
      have HD := hide hD
      have q1 : ¬ (C = i + 1) := by omega
      have q2 : ¬ (C = i) := by omega
      have q3 : ¬ (xs.length = i) := by omega
      have hw1 : IntKind.i64.wrap ((i : Int) + 1) = (i : Int) + 1 := by rw [IntKind.wrap_i64]; omega
      have hb1 : (0 : Int) ≤ (i : Int) + 1 := by omega
      have hb2 : (i : Int) + 1 ≤ (n : Int) + 1 := by omega
      have hb3 : (i : Int) ≤ (n : Int) + 1 := by omega
      have hb4 : i ≤ n := by omega
      have q4 : ((i : Int) + 1).toNat = i + 1 := by omega
      unfold maxLen at hC2
      clear hX1 hD hh2 T1 hG1 hO1 hz1 hxl hs3 hW1 h1 hcv hv hg hi0 hzz0
      go_enter Try.func25, Try.ntmps25
      go_wp2_with (at_builtin; refine Lib.wpList_append_run _ rfl (.tmp 34) (.tmp 39) 22 3 rfl _ _ rfl rfl _ _ hrun ?_)
      go_region_law (refine step_cp rfl (.tmp 50) (.tmp 53) 22 rfl 9 Try.underlying22 Try.sz9 w.heap.size (i + 1) (n + 1 - (i + 1)) (C - (i + 1)) (some ⟨g, i, none⟩) (n - i) (xs.length - i) (by simp [Act.eval, Act.put]) (by simp [Act.eval, Act.put]) X1 HG2.out D (by rw [hlen]; simp only [Nat.min_def]; split <;> omega) hs4.out (by rw [hlen]; exact hl2) hs5.out ?_; intro w3 H3)
      go_wp2
      go_ret
      refine ⟨w.heap.size, splice X1 (i + 1) D, by rw [R.out.1]; rfl, H3.out.1, by rw [R.out.2, HD.out], by rw [R.out.1]; exact hC1, by rw [R.out.1]; unfold maxLen; omega, ?_, .inr (Nat.le_refl _)⟩
      have T3 : Touch (· = w.heap.size) W1 w3 := (H2.out.2.touch).trans (H3.out.2.touch.ofDrew)
      have T4 : Touch (fun k => k = g ∨ k = w.heap.size) w w3 := (HT1.out.mono (fun k _ h => .inl h)).trans (T3.mono (fun k _ h => .inr h))
      exact T4.mono (fun k hk h => by rcases h with h | h; exact h; omega)

/-! ### the same at [][]string -/
theorem Try.info22 : (Try.prog.info? 22).map (fun i => (i.zero, i.size, i.bytes)) = some (some (.slice none 0 0), 1, 24) := by kernel_rfl
theorem Try.sz22 : (Try.prog.info? 22).map (·.size) = some 1 := by kernel_rfl
theorem ov35 (vb b off : Nat) (lb cb : Nat) (w : World) (xs : List Value) (x : Value) (hvb : vb ≠ b) (hv : w.heap[vb]? = some (.cells #[x] 22 (0, 0))) (hb : w.heap[b]? = some (.cells xs.toArray 22 (0, 0))) (hx : xs.length ≠ 0) :
    (callFunc 35 #[.slice (some ⟨vb, 0, none⟩) 1 1, .slice (some ⟨b, off, none⟩) lb cb]).run Try.prog w = .ok (.value (.bool false)) w := by
  rw [run_callFunc_extern Try.func35 (by kernel_rfl) (by kernel_rfl) (by kernel_rfl) (e := Extern.SlicesOverlaps.overlaps #[32, 32] #[4]) (by kernel_rfl),
    Lib.run_overlaps_apart w 32 4 22 Try.underlying32 1 (fun w => by kernel_rfl) ⟨vb, 0, none⟩ ⟨b, off, none⟩ 1 1 lb cb hvb 22 22 1 xs.length (by simp [World.shape?, hv]) (by simp [World.shape?, hb]) hx (by simp [World.frozen?, hv]) (by simp [World.frozen?, hv])]
  rfl

set_option maxHeartbeats 1000000 in
theorem ins27 (g n cap i vb : Nat) (xs : List Value) (x : Value) (w : World) (hg : w.heap[g]? = some (.cells xs.toArray 22 (0, 0))) (hn : n ≤ cap) (hcap : cap = xs.length) (hmax : cap ≤ maxLen) (hi : i ≤ n) (hn2 : n ≤ 1000000)
    (hv : w.heap[vb]? = some (.cells #[x] 22 (0, 0))) (hvg : vb ≠ g) (h1 : ∀ u ∈ xs.take n, u.oneCell' = true) (hx1 : x.oneCell' = true) :
    Calls Try.prog 27 #[.slice (some ⟨g, 0, none⟩) n cap, .int .i64 i, .slice (some ⟨vb, 0, none⟩) 1 1] w (InsPost 22 w g n xs i x) := by
  subst hcap
  unfold maxLen at hmax
  have hcv : w.cell? ⟨vb, 0, none⟩ = some x := by rw [cell_of_row w vb 0 _ _ _ hv]; rfl
  have hsrcv : Hid (0 < 1 → ∃ ad, some (⟨vb, 0, none⟩ : Addr) = some ad ∧ ∀ j u, ([x] : List Value)[j]? = some u → w.cell? (ad.add j) = some u) := by
    intro _
    refine ⟨_, rfl, fun j u hu => ?_⟩
    have hj : j = 0 := by have := (List.getElem?_eq_some_iff.1 hu).1; simp at this; omega
    subst hj
    simp at hu; subst hu
    simpa [Addr.add] using hcv
  have HX1 : Hid (∀ u ∈ ([x] : List Value), u.oneCell' = true) := by intro u hu; simp at hu; subst hu; exact hx1
  by_cases hin : i = n
  · subst hin
    have hcm : xs.length ≤ maxLen := by unfold maxLen; omega
    go_enter Try.func27, Try.ntmps27
    go_wp2_with (at_builtin; refine wpList_app rfl (.tmp 23) (.tmp 24) 32 rfl 22 (.slice none 0 0) 24 Try.underlying32 Try.info22 rfl g i xs.length xs rfl hg hn rfl hcm (some ⟨vb, 0, none⟩) 1 1 [x] rfl rfl hsrcv.out HX1.out (by unfold maxLen; omega) (by omega) ?_; intro g1 xs1 w1 H1)
    all_goals go_ret
    all_goals exact ⟨g1, xs1, rfl, H1.out.1, by rw [H1.out.2.1]; exact ins_end xs i x, H1.out.2.2.1, H1.out.2.2.2.1, H1.out.2.2.2.2.1, by rcases H1.out.2.2.2.2.2.1 with h | h; exact .inl h; exact .inr (Nat.le_of_eq h.symm)⟩
  · have hz : ((i : Int) == (n : Int)) = false := by simp; omega
    have hlt : i < n := by omega
    by_cases hroom : n + 1 ≤ xs.length
    · have hov := fun lb cb => ov35 vb g (i + 1) lb cb w xs x hvg hv hg (by omega)
      have q1 : ¬ (xs.length = i + 1) := by omega
      have q2 : ¬ (xs.length = i) := by omega
      have q3 : ((n : Int) + 1).toNat = n + 1 := by omega
      have q4 : ((i : Int) + 1).toNat = i + 1 := by omega
      have hw1 : IntKind.i64.wrap ((i : Int) + 1) = (i : Int) + 1 := by rw [IntKind.wrap_i64]; omega
      have hb1 : (0 : Int) ≤ (i : Int) + 1 := by omega
      have hb2 : (i : Int) + 1 ≤ (n : Int) + 1 := by omega
      have hb3 : (i : Int) ≤ (n : Int) + 1 := by omega
      have hb4 : i ≤ n := by omega
      have hlen : ((xs.take n).drop i).length = n - i := by simp; omega
      have hs1 : Hid (0 < ((xs.take n).drop i).length → ∃ ad, some (⟨g, i, none⟩ : Addr) = some ad ∧ ∀ j v, ((xs.take n).drop i)[j]? = some v → w.drew.cell? (ad.add j) = some v) := by
        intro _
        refine ⟨_, rfl, fun j v hj => ?_⟩
        rw [Addr.add_lit]
        show w.cell? _ = _
        rw [cell_of_row w g (i + j) xs.toArray 22 (0, 0) hg, List.getElem?_toArray]
        rw [List.getElem?_drop, List.getElem?_take] at hj
        split at hj
        · exact hj
        · cases hj
      have hs2 : Hid (∀ v ∈ (xs.take n).drop i, v.oneCell' = true) := fun v hv => h1 v (List.mem_of_mem_drop hv)
      have HG : Hid (w.drew.heap[g]? = some (.cells xs.toArray 22 (0, 0))) := hg
      obtain ⟨D, hD⟩ : ∃ D, (xs.take n).drop i = D := ⟨_, rfl⟩
      rw [hD] at hs1 hs2 hlen
      have HD := hide hD
      have HV := hide hv
      clear hD hv hg hcv h1
      go_enter Try.func27, Try.ntmps27
      go_wp2
      go_region_law (refine step_cp rfl (.tmp 73) (.tmp 76) 32 rfl 22 Try.underlying32 Try.sz22 g (i + 1) (n + 1 - (i + 1)) (xs.length - (i + 1)) (some ⟨g, i, none⟩) (n + 1 - i) (xs.length - i) (by simp [Act.eval, Act.put]) (by simp [Act.eval, Act.put]) xs HG.out D (by rw [hlen]; simp only [Nat.min_def]; split <;> omega) hs1.out (by omega) hs2.out ?_; intro w2 H2)
      have hs3 : Hid (0 < ([x] : List Value).length → ∃ ad, some (⟨vb, 0, none⟩ : Addr) = some ad ∧ ∀ j u, ([x] : List Value)[j]? = some u → w2.cell? (ad.add j) = some u) := by
        intro _
        obtain ⟨ad, had, hh⟩ := hsrcv.out (by omega)
        refine ⟨ad, had, fun j u hu => ?_⟩
        have hj : j = 0 := by have := (List.getElem?_eq_some_iff.1 hu).1; simp at this; omega
        subst hj
        have := hh 0 u hu
        rw [Option.some.injEq] at had
        subst had
        rw [← this]
        exact World.cell?_of_block (w := w) (H2.out.2.block vb hvg)
      have hmn : ([x] : List Value).length = Nat.min 1 (n + 1 - i) := by show 1 = min 1 (n + 1 - i); omega
      have hl2 : i + 1 ≤ (splice xs (i + 1) D).length := by rw [length_splice _ _ _ (by omega)]; omega
      obtain ⟨w3, hcp, hh3⟩ := run_cp (P := Try.prog) w2 32 3 22 Try.underlying32 Try.sz22 g i (n + 1 - i) (xs.length - i) (some ⟨vb, 0, none⟩) 1 1 (splice xs (i + 1) D) H2.out.1 [x] hmn hs3.out hl2 HX1.out
      have H3 := hide hh3
      clear hh3 hl2 hs3 hmn hlen
      go_wp2
      go_ret
      have R := ins_room xs n i x hroom hlt
      rw [HD.out] at R
      refine ⟨g, splice (splice xs (i + 1) D) i [x], by rw [R.1]; rfl, H3.out.1, ?_, by rw [R.1]; exact hroom, by rw [R.1]; unfold maxLen; omega, (H2.out.2.touch.ofDrew).trans H3.out.2.touch, .inl rfl⟩
      rw [R.2, HD.out]
    · have hglt : g < w.heap.size := (Array.getElem?_eq_some_iff.1 hg).1
      have hvlt : vb < w.heap.size := (Array.getElem?_eq_some_iff.1 hv).1
      obtain ⟨i0, hi0, hzz0⟩ := Option.map_eq_some_iff.1 Try.info22
      simp only [Prod.mk.injEq] at hzz0
      obtain ⟨C, hC1, hC2, hrun⟩ := run_appz (P := Try.prog) w 32 3 32 22 i0 (.slice none 0 0) 24 Try.underlying32 Try.underlying3 hi0 hzz0.1 hzz0.2.1 hzz0.2.2 rfl g i xs.length xs hg (by omega) (n + 1 - i) (by omega) (by omega) (by omega) (by unfold maxLen; omega)
      rw [show i + (n + 1 - i) = n + 1 from by omega] at hrun hC1
      rw [show ((n + 1 - i : Nat) : Int) = (n : Int) + 1 - (i : Int) from by omega] at hrun
      obtain ⟨W1, hW1⟩ : ∃ W1, w.drew.alloc (.cells (xs.take i ++ List.replicate (C - i) (Value.slice none 0 0)).toArray 22) = W1 := ⟨_, rfl⟩
      rw [hW1] at hrun
      have T1 : Touch (· = g) w W1 := by rw [← hW1]; exact (Touch.refl _ w).drew.alloc _
      have hG1 : W1.heap[w.heap.size]? = some (.cells (xs.take i ++ List.replicate (C - i) (Value.slice none 0 0)).toArray 22 (0, 0)) := by rw [← hW1]; exact Go.heap_alloc_new w.drew _
      have hO1 : ∀ k, k < w.heap.size → W1.heap[k]? = w.heap[k]? := fun k hk => by rw [← hW1]; exact Below.heap_alloc w.drew _ k hk
      have hz1 : W1.heap.size = w.heap.size + 1 := by rw [← hW1]; exact World.size_alloc w.drew _
      have hxl : (xs.take i ++ List.replicate (C - i) (Value.slice none 0 0)).length = C := by simp; omega
      have hs3 : 0 < ([x] : List Value).length → ∃ ad, some (⟨vb, 0, none⟩ : Addr) = some ad ∧ ∀ j u, ([x] : List Value)[j]? = some u → W1.cell? (ad.add j) = some u := by
        intro _
        refine ⟨_, rfl, fun j u hu => ?_⟩
        have hj : j = 0 := by have := (List.getElem?_eq_some_iff.1 hu).1; simp at this; omega
        subst hj
        simp at hu; subst hu
        rw [show (⟨vb, 0, none⟩ : Addr).add 0 = ⟨vb, 0, none⟩ from rfl, ← hcv]
        exact World.cell?_of_block (w := w) (hO1 vb hvlt)
      obtain ⟨w2, hcp, hh2⟩ := run_cp (P := Try.prog) W1 32 3 22 Try.underlying32 Try.sz22 w.heap.size i (n + 1 - i) (C - i) (some ⟨vb, 0, none⟩) 1 1 (xs.take i ++ List.replicate (C - i) (Value.slice none 0 0)) hG1 [x] (by show 1 = min 1 (n + 1 - i); omega) hs3 (by rw [hxl]; show i + 1 ≤ C; omega) HX1.out
      have hlen : ((xs.take n).drop i).length = n - i := by simp; omega
      have hs4 : Hid (0 < ((xs.take n).drop i).length → ∃ ad, some (⟨g, i, none⟩ : Addr) = some ad ∧ ∀ j v, ((xs.take n).drop i)[j]? = some v → w2.drew.cell? (ad.add j) = some v) := by
        intro _
        refine ⟨_, rfl, fun j v hj => ?_⟩
        rw [Addr.add_lit]
        show w2.cell? _ = _
        rw [World.cell?_of_block (w := w) (w' := w2) (a := ⟨g, i + j, none⟩) ((hh2.2.block g (by omega)).trans (hO1 g hglt)), cell_of_row w g (i + j) xs.toArray 22 (0, 0) hg, List.getElem?_toArray]
        rw [List.getElem?_drop, List.getElem?_take] at hj
        split at hj
        · exact hj
        · cases hj
      have hs5 : Hid (∀ v ∈ (xs.take n).drop i, v.oneCell' = true) := fun v hv => h1 v (List.mem_of_mem_drop hv)
      have H2 := hide hh2
      have HG2 : Hid (w2.drew.heap[w.heap.size]? = some (.cells (splice (xs.take i ++ List.replicate (C - i) (Value.slice none 0 0)) i [x]).toArray 22 (0, 0))) := hh2.1
      have hl2 : i + 1 + (n - i) ≤ (splice (xs.take i ++ List.replicate (C - i) (Value.slice none 0 0)) i [x]).length := by
        rw [length_splice _ _ _ (by rw [hxl]; show i + 1 ≤ C; omega), hxl]; omega
      have R := hide (ins_grow xs n i C x (.slice none 0 0) (by omega) hlt hC1)
      have HT1 := hide T1
      have hHz : w.heap.size ≠ g := by omega
      obtain ⟨D, hD⟩ : ∃ D, (xs.take n).drop i = D := ⟨_, rfl⟩
      rw [hD] at hs4 hs5 hlen R
      obtain ⟨X1, hX1⟩ : ∃ X1, splice (xs.take i ++ List.replicate (C - i) (Value.slice none 0 0)) i [x] = X1 := ⟨_, rfl⟩
      rw [hX1] at HG2 hl2 R
      have HD := hide hD
      have q1 : ¬ (C = i + 1) := by omega
      have q2 : ¬ (C = i) := by omega
      have q3 : ¬ (xs.length = i) := by omega
      have hw1 : IntKind.i64.wrap ((i : Int) + 1) = (i : Int) + 1 := by rw [IntKind.wrap_i64]; omega
      have hb1 : (0 : Int) ≤ (i : Int) + 1 := by omega
      have hb2 : (i : Int) + 1 ≤ (n : Int) + 1 := by omega
      have hb3 : (i : Int) ≤ (n : Int) + 1 := by omega
      have hb4 : i ≤ n := by omega
      have q4 : ((i : Int) + 1).toNat = i + 1 := by omega
      unfold maxLen at hC2
      clear hX1 hD hh2 T1 hG1 hO1 hz1 hxl hs3 hW1 h1 hcv hv hg hi0 hzz0
      go_enter Try.func27, Try.ntmps27
      go_wp2_with (at_builtin; refine Lib.wpList_append_run _ rfl (.tmp 34) (.tmp 39) 32 3 rfl _ _ rfl rfl _ _ hrun ?_)
      go_region_law (refine step_cp rfl (.tmp 50) (.tmp 53) 32 rfl 22 Try.underlying32 Try.sz22 w.heap.size (i + 1) (n + 1 - (i + 1)) (C - (i + 1)) (some ⟨g, i, none⟩) (n - i) (xs.length - i) (by simp [Act.eval, Act.put]) (by simp [Act.eval, Act.put]) X1 HG2.out D (by rw [hlen]; simp only [Nat.min_def]; split <;> omega) hs4.out (by rw [hlen]; exact hl2) hs5.out ?_; intro w3 H3)
      go_wp2
      go_ret
      refine ⟨w.heap.size, splice X1 (i + 1) D, by rw [R.out.1]; rfl, H3.out.1, by rw [R.out.2, HD.out], by rw [R.out.1]; exact hC1, by rw [R.out.1]; unfold maxLen; omega, ?_, .inr (Nat.le_refl _)⟩
      have T3 : Touch (· = w.heap.size) W1 w3 := (H2.out.2.touch).trans (H3.out.2.touch.ofDrew)
      have T4 : Touch (fun k => k = g ∨ k = w.heap.size) w w3 := (HT1.out.mono (fun k _ h => .inl h)).trans (T3.mono (fun k _ h => .inr h))
      exact T4.mono (fun k hk h => by rcases h with h | h; exact h; omega)
end Go.Proofs.Qxb6606313a
