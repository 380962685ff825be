/-
  'replicaNames' and 'isBase', walked: the plain function 'names'; and the plain law of the cut. Not trusted: the kernel checks it.
-/
import Derived.Test.Qxb6003646aGuards
import Derived.Deep.Draws
namespace Go.Proofs.Qxb6003646a
open Go.RowKit Go.Deep
set_option linter.unusedVariables false

def cat (s b : ByteArray) : ByteArray := s ++ ⟨#[46]⟩ ++ b
def base (G R : ByteArray) (A : List ByteArray) : List ByteArray := G :: (A ++ [R])
def names (G R : ByteArray) (A S : List ByteArray) : List ByteArray := base G R A ++ S.flatMap (fun s => (base G R A).map (cat s))

/-- the slice v, in a row of the call's own (from block B on), holds the strings ys -/
def Own (B : Nat) (w : World) (g : Nat) (xs : List Value) (ys : List ByteArray) : Prop :=
  B ≤ g ∧ w.heap[g]? = some (.cells xs.toArray 9 (0, 0)) ∧ xs.take ys.length = ys.map Value.string ∧ ys.length ≤ xs.length ∧ xs.length ≤ maxLen

theorem strs_one (l : List ByteArray) : ∀ u ∈ l.map Value.string, u.oneCell' = true := by
  intro u hu; simp at hu; obtain ⟨a, _, rfl⟩ := hu; rfl


theorem src_of {w : World} {a : Option Addr} {n cap : Nat} {l : List ByteArray} (h : VS w a n cap l) (o : Obj) : 0 < n → ∃ ad, a = some ad ∧ ∀ j u, (l.map Value.string)[j]? = some u → (w.alloc o).cell? (ad.add j) = some u := by
  obtain ⟨h1, h2, h3, h4⟩ := h
  intro hn
  obtain ⟨b, off, rfl, hlt, hc⟩ := h4 hn
  refine ⟨_, rfl, fun j u hu => ?_⟩
  rw [Go.WideShapes.add_plain, World.cell?_alloc_lt _ _ _ hlt]
  rw [List.getElem?_map, Option.map_eq_some_iff] at hu
  obtain ⟨s, hs, rfl⟩ := hu
  exact hc j s hs

theorem src_one (w : World) (s : ByteArray) : 0 < 1 → ∃ ad, some (⟨w.heap.size, 0, none⟩ : Addr) = some ad ∧ ∀ j u, ([Value.string s] : List Value)[j]? = some u → (w.alloc (.cells #[.string s] 9)).cell? (ad.add j) = some u := by
  intro _
  refine ⟨_, rfl, fun j u hu => ?_⟩
  have hj : j = 0 := by
    have := (List.getElem?_eq_some_iff.1 hu).1; simp at this; omega
  subst hj
  simp at hu; subst hu
  simp [Addr.add]

theorem heap_old {w : World} {g : Nat} {o' : Obj} (o : Obj) (h : w.heap[g]? = some o') : (w.alloc o).heap[g]? = some o' := by
  rw [Below.heap_alloc w o g (Array.getElem?_eq_some_iff.1 h).1]; exact h


/-- what 'wpList_app' leaves -/
def After (w : World) (g n cap : Nat) (xs news : List Value) (g' : Nat) (xs' : List Value) (w' : World) : Prop :=
  w'.heap[g']? = some (.cells xs'.toArray 9 (0, 0)) ∧ xs'.take (n + news.length) = xs.take n ++ news ∧ n + news.length ≤ xs'.length ∧ xs'.length ≤ maxLen ∧ Touch (· = g) w w' ∧ (g' = g ∨ g' = w.heap.size) ∧
      (∀ j, j < n → w'.cell? ⟨g, j, none⟩ = w.cell? ⟨g, j, none⟩) ∧ (n + news.length ≤ cap → g' = g ∧ xs'.length = cap)

theorem own_step {B : Nat} {w wr wa : World} {g : Nat} {xs : List Value} {ys : List ByteArray} {news : List ByteArray} {g' : Nat} {xs' : List Value} {w' : World} (ho : Own B wr g xs ys) (hb : Below B w wr) (hB : B ≤ w.heap.size) (hx : Below wr.heap.size wr wa)
    (h : After wa g ys.length xs.length xs (news.map Value.string) g' xs' w') :
    Own B w' g' xs' (ys ++ news) ∧ Below B w w' ∧ wr.heap.size ≤ w'.heap.size ∧ ∀ g0 j, g0 < wr.heap.size → (g0 = g → j < ys.length) → w'.cell? ⟨g0, j, none⟩ = wr.cell? ⟨g0, j, none⟩ := by
  obtain ⟨o1, o2, o3, o4, o5⟩ := ho
  obtain ⟨h1, h2, h3, h4, h5, h6, h7, h8⟩ := h
  have hglt : g < wr.heap.size := (Array.getElem?_eq_some_iff.1 o2).1
  have hs := hb.size
  have hxs := hx.size
  simp only [List.length_map] at h2 h3
  have h5s := h5.size
  refine ⟨⟨?_, h1, ?_, by simpa using h3, h4⟩, ?_, by omega, ?_⟩
  · rcases h6 with h6 | h6 <;> omega
  · rw [List.length_append, h2, o3, List.map_append]
  · exact (hb.trans (hx.mono (by omega))).trans (h5.below (fun k hk e => by omega) (by omega))
  · intro g0 j hg0 hj
    by_cases e : g0 = g
    · subst e
      rw [h7 j (hj rfl)]
      exact hx.cell (p := ⟨g0, j, none⟩) hglt
    · rw [World.cell?_of_block (w := wa) (w' := w') (a := ⟨g0, j, none⟩) (h5.block g0 (by omega) e)]
      exact hx.cell (p := ⟨g0, j, none⟩) hg0

theorem own_cell {B : Nat} {w : World} {g : Nat} {xs : List Value} {ys : List ByteArray} (h : Own B w g xs ys) (j : Nat) (s : ByteArray) (hs : ys[j]? = some s) : w.cell? ⟨g, j, none⟩ = some (.string s) := by
  obtain ⟨o1, o2, o3, o4, o5⟩ := h
  rw [cell_of_row w g j xs.toArray 9 (0, 0) o2, List.getElem?_toArray]
  have hj : j < ys.length := (List.getElem?_eq_some_iff.1 hs).1
  have h1 : (xs.take ys.length)[j]? = xs[j]? := List.getElem?_take_of_lt hj
  rw [← h1, o3, List.getElem?_map, hs]; rfl

theorem len_base (G R : ByteArray) (A : List ByteArray) : (base G R A).length = A.length + 2 := by simp [base]
theorem len_names (G R : ByteArray) (A S : List ByteArray) : (names G R A S).length = (A.length + 2) * (S.length + 1) := by
  have h : ∀ T : List ByteArray, (T.flatMap (fun s => (base G R A).map (cat s))).length = (A.length + 2) * T.length := by
    intro T
    induction T with
    | nil => simp
    | cons t T ih => rw [List.flatMap_cons, List.length_append, ih, List.length_map, len_base, List.length_cons, Nat.mul_succ]; omega
  rw [names, List.length_append, h, len_base, Nat.mul_succ]; omega
theorem names_snoc (G R : ByteArray) (A S : List ByteArray) (s : ByteArray) : names G R A (S ++ [s]) = names G R A S ++ (base G R A).map (cat s) := by
  simp [names, List.flatMap_append]

def NPost (l : List ByteArray) (w : World) (e : Ending) (w' : World) : Prop :=
  ∃ g xs, e = .returned (.slice (some ⟨g, 0, none⟩) l.length xs.length) ∧ Own w.heap.size w' g xs l ∧ Below w.heap.size w w'

theorem NPost.of {l : List ByteArray} {w w' : World} {e : Ending} {g N : Nat} {xs : List Value} (he : e = .returned (.slice (some ⟨g, 0, none⟩) N xs.length)) (hN : N = l.length) (ho : Own w.heap.size w' g xs l) (hb : Below w.heap.size w w') : NPost l w e w' :=
  ⟨g, xs, by rw [he, hN], ho, hb⟩

set_option maxHeartbeats 1000000 in
theorem names_any (G R : ByteArray) (aA : Option Addr) (nA cA : Nat) (A : List ByteArray) (aS : Option Addr) (nS cS : Nat) (S : List ByteArray) (w : World) (hG : G.size ≤ 1048576) (hR : R.size ≤ 1048576)
    (hA : VS w aA nA cA A) (hS : VS w aS nS cS S) (hA2 : ∀ s ∈ A, s.size ≤ 1048576) (hS2 : ∀ s ∈ S, s.size ≤ 1048576) (hnA : nA ≤ 4096) (hnS : nS ≤ 4096) :
    Calls Try.prog 25 #[.string G, .string R, .slice aA nA cA, .slice aS nS cS] w (NPost (names G R A S) w) := by
  have S1 := hide (src_of hA (.cells #[.string G] 9))
  have S2 := hide (fun w => src_one w R)
  obtain ⟨a1, a2, a3, a4⟩ := hA
  have HS := hide hS
  have HA2 := hide hA2
  have HS2 := hide hS2
  unfold maxLen at a3
  clear a4 hS hA2 hS2
  have L1 := hide (strs_one A)
  have L2 := hide (strs_one [R])
  go_enter Try.func25, Try.ntmps25
  go_wp2_with (first
    | (at_builtin; refine wpList_app rfl (.tmp 16) (.tmp 17) 29 rfl 9 (.string ByteArray.empty) 16 Try.underlying29 Try.info9 rfl w.heap.size 1 1 [.string G] rfl (Go.heap_alloc_new w _) (by omega) rfl (by unfold maxLen; omega) aA nA cA (A.map Value.string) rfl (by simp [a1]) S1.out L1.out (by unfold maxLen; omega) (by omega) ?_; intro g1 xs1 w1 H1)
    | (at_builtin; refine wpList_app rfl (.tmp 19) (.tmp 21) 29 rfl 9 (.string ByteArray.empty) 16 Try.underlying29 Try.info9 rfl g1 (1 + nA) xs1.length xs1 rfl (heap_old _ H1.out.1) H1.out.2.2.1 rfl H1.out.2.2.2.1 (some ⟨w1.heap.size, 0, none⟩) 1 1 [Value.string R] rfl rfl (S2.out w1) L2.out (by unfold maxLen; omega) (by omega) ?_; intro g2 xs2 w2 H2))
  have O0 : Own w.heap.size (w.alloc (.cells #[.string G] 9)) w.heap.size [.string G] [G] := ⟨Nat.le_refl _, Go.heap_alloc_new w _, rfl, by simp, by simp [maxLen]⟩
  have hA1 : After (w.alloc (.cells #[.string G] 9)) w.heap.size 1 1 [.string G] (A.map Value.string) g1 xs1 w1 := by
    unfold After; rw [List.length_map, a1]; exact H1.out
  obtain ⟨O1, B1, -, -⟩ := own_step (w := w) O0 ((Below.refl _ _).alloc (Nat.le_refl _) _) (Nat.le_refl _) (Below.refl _ _) hA1
  have e1 : 1 + nA = ([G] ++ A).length := by simp; omega
  have hA2 : After (w1.alloc (.cells #[.string R] 9)) g1 ([G] ++ A).length xs1.length xs1 ([R].map Value.string) g2 xs2 w2 := by
    unfold After; rw [← e1]; exact H2.out
  obtain ⟨O2, B2, -, -⟩ := own_step O1 B1 (Nat.le_refl _) ((Below.refl _ _).alloc (Nat.le_refl _) _) hA2
  have O : Hid (Own w.heap.size w2 g2 xs2 (names G R A (S.take 0)) ∧ Below w.heap.size w w2) := ⟨by simpa [names, base] using O2, B2⟩
  have e2 : 1 + nA + 1 = nA + 2 := by omega
  have e3 : (1 : Int) + nA + 1 = (nA : Int) + 2 := by omega
  rw [e2, e3]
  clear O2 B2 hA2 O1 B1 hA1 O0 H1 H2 S1 S2 L1 L2 e1 e2 e3
  have hl0 := len_names G R A (S.take 0)
  simp only [List.take_zero, List.length_nil, a1] at hl0
  go_loopw [9, 27] (fun v i wr => ∃ (k g N : Nat) (xs : List Value), k ≤ nS ∧ i = .int .i64 k ∧ v = .slice (some ⟨g, 0, none⟩) N xs.length ∧ N = (names G R A (S.take k)).length ∧ Own w.heap.size wr g xs (names G R A (S.take k)) ∧ Below w.heap.size w wr) (fun _ i _ => nS - (intOf i).toNat)
  case atStart => exact ⟨0, g2, nA + 2, xs2, Nat.zero_le _, rfl, rfl, by rw [List.take_zero, hl0]; omega, O.out⟩
  case round =>
    clear O hl0
    obtain ⟨k, g, N, xs, hk, rfl, rfl, hN, hO, hB⟩ := hrel
    have hsl : S.length = nS := HS.out.1
    have hNl := len_names G R A (S.take k)
    rw [List.length_take, hsl, Nat.min_eq_left hk, a1, ← hN] at hNl
    have hN1 : nA + 2 ≤ N := by rw [hNl]; exact Nat.le_mul_of_pos_right _ (by omega)
    have hN2 : N ≤ 4098 * 4097 := by rw [hNl]; exact Nat.mul_le_mul (by omega) (by omega)
    have hNx : N ≤ xs.length := by rw [hN]; exact hO.2.2.2.1
    have hxm := hO.2.2.2.2
    unfold maxLen at hxm
    have HN := hide hN
    have HNl := hide hNl
    have HO := hide hO
    have HB := hide hB
    clear hN hNl hO hB
    by_cases hlt : k < nS
    · obtain ⟨b, off, hx, hblt, hc⟩ := HS.out.2.2.2 (by omega)
      subst hx
      have hkA : k < S.length := by omega
      have hck := (HB.out.cell (p := ⟨b, off + k, none⟩) hblt).trans (hc k S[k] (by simp [hkA]))
      have hsz := HS2.out S[k] (by simp)
      have HT : Hid (S.take (k + 1) = S.take k ++ [S[k]]) := List.take_succ_eq_append_getElem hkA
      obtain ⟨s, hs⟩ : ∃ s, S[k] = s := ⟨_, rfl⟩
      rw [hs] at hck hsz HT
      clear hs hc
      go_wp2
      obtain ⟨wo, rfl⟩ : ∃ wo : World, wo = wr := ⟨_, rfl⟩
      have hbl := len_base G R A
      rw [a1] at hbl
      have C0 : Hid (∀ j t, (base G R A)[j]? = some t → wo.cell? ⟨g, j, none⟩ = some (.string t)) := by
        intro j t ht
        refine own_cell HO.out j t ?_
        unfold names
        rw [List.getElem?_append_left (List.getElem?_eq_some_iff.1 ht).1]; exact ht
      have hglt : g < wo.heap.size := (Array.getElem?_eq_some_iff.1 HO.out.2.1).1
      have HL : Hid (∀ t ∈ base G R A, t.size ≤ 1048576) := by
        intro t ht
        simp only [base, List.mem_cons, List.mem_append, List.not_mem_nil, or_false] at ht
        rcases ht with rfl | ht | rfl
        · exact hG
        · exact HA2.out t ht
        · exact hR
      go_loopw [9, 35] (fun v i wr => ∃ (j g' N' : Nat) (xs' : List Value), j ≤ nA + 2 ∧ i = .int .i64 j ∧ v = .slice (some ⟨g', 0, none⟩) N' xs'.length ∧ N' = N + j ∧ Own w.heap.size wr g' xs' (names G R A (S.take k) ++ ((base G R A).take j).map (cat s)) ∧ Below w.heap.size w wr ∧ g < wr.heap.size ∧ ∀ j t, (base G R A)[j]? = some t → wr.cell? ⟨g, j, none⟩ = some (.string t)) (fun _ i _ => nA + 2 - (intOf i).toNat)
      case atStart => exact ⟨0, g, N, xs, Nat.zero_le _, rfl, rfl, rfl, by simpa using HO.out, HB.out, hglt, C0.out⟩
      case round =>
        clear C0 HO HB hglt hck
        obtain ⟨j, g', N', xs', hj, rfl, rfl, hN', hO, hB, hglt, hC⟩ := hrel
        have hNx' : N' ≤ xs'.length := by
          have := hO.2.2.2.1
          rw [List.length_append, ← HN.out, List.length_map, List.length_take, hbl, Nat.min_eq_left hj] at this
          omega
        have hxm' := hO.2.2.2.2
        unfold maxLen at hxm'
        have hN2' : N' ≤ 4098 * 4097 + 4098 := by omega
        by_cases hjl : j < nA + 2
        · have hjb : j < (base G R A).length := by omega
          have hcj := hC j (base G R A)[j] (by simp [hjb])
          have hsz2 := HL.out (base G R A)[j] (by simp)
          have HT2 : Hid ((base G R A).take (j + 1) = (base G R A).take j ++ [(base G R A)[j]]) := List.take_succ_eq_append_getElem hjb
          obtain ⟨t, ht⟩ : ∃ t, (base G R A)[j] = t := ⟨_, rfl⟩
          rw [ht] at hcj hsz2 HT2
          have HO := hide hO
          have HB := hide hB
          have HC := hide hC
          have HN' := hide hN'
          have S2 := hide (src_one wr (cat s t))
          have L2 := hide (strs_one [cat s t])
          unfold cat at S2 L2
          clear hO hB hC hN' ht
          go_wp2_with (first | (at_builtin; (refine wpList_app rfl (.tmp 39) (.tmp 44) 29 rfl 9 (.string ByteArray.empty) 16 Try.underlying29 Try.info9 rfl g' N' xs'.length xs' rfl (heap_old _ HO.out.2.1) hNx' rfl HO.out.2.2.2.2 (some ⟨wr.heap.size, 0, none⟩) 1 1 [Value.string (s ++ ByteArray.mk #[46] ++ t)] rfl rfl S2.out L2.out (by unfold maxLen; omega) (by omega) ?_); intro g3 xs3 w3 H3))
          have hA3 : After (wr.alloc (.cells #[.string (cat s t)] 9)) g' (names G R A (S.take k) ++ ((base G R A).take j).map (cat s)).length xs'.length xs' ([cat s t].map Value.string) g3 xs3 w3 := by
            have hlen : (names G R A (S.take k) ++ ((base G R A).take j).map (cat s)).length = N' := by
              rw [List.length_append, ← HN.out, List.length_map, List.length_take, hbl, Nat.min_eq_left hj]; exact HN'.out.symm
            unfold After
            rw [hlen]
            exact H3.out
          obtain ⟨O3, B3, z3, c3⟩ := own_step HO.out HB.out (Nat.le_refl _) ((Below.refl _ _).alloc (Nat.le_refl _) _) hA3
          go_roundw
          case rel =>
            refine ⟨j + 1, g3, N' + 1, xs3, by omega, by go_num, rfl, by rw [HN'.out]; omega, ?_, B3, by omega, ?_⟩
            · rw [HT2.out, List.map_append, ← List.append_assoc]; exact O3
            · intro i u hu
              rw [c3 g i hglt (fun e => ?_)]
              · exact HC.out i u hu
              · rw [List.length_append, ← HN.out]
                have := (List.getElem?_eq_some_iff.1 hu).1
                omega
          case measure => simp [intOf]; omega
        · obtain rfl : j = nA + 2 := by omega
          have hT3 : names G R A (S.take (k + 1)) = names G R A (S.take k) ++ ((base G R A).take (nA + 2)).map (cat s) := by
            rw [HT.out, names_snoc, show (base G R A).take (nA + 2) = base G R A from List.take_of_length_le (by omega)]
          have FO := hide hO
          have FB := hide hB
          have FN := hide hN'
          have FT := hide hT3
          clear hO hB hN' hT3 hC
          go_wp2
          go_roundw
          case rel =>
            refine ⟨k + 1, g', N', xs', by omega, by go_num, rfl, ?_, by rw [FT.out]; exact FO.out, FB.out⟩
            rw [FT.out, List.length_append, ← HN.out, List.length_map, List.length_take, hbl, FN.out]; omega
          case measure => simp [intOf]; omega
    · obtain rfl : nS = k := by omega
      have hT : S.take nS = S := List.take_of_length_le (by omega)
      rw [hT] at HO HN
      clear hT
      go_wp2
      go_ret
      exact NPost.of rfl HN.out HO.out HB.out

set_option maxHeartbeats 400000 in
theorem zznames_any (G R : ByteArray) (aA : Option Addr) (nA cA : Nat) (A : List ByteArray) (aS : Option Addr) (nS cS : Nat) (S : List ByteArray) (w : World) (hG : G.size ≤ 1048576) (hR : R.size ≤ 1048576)
    (hA : VS w aA nA cA A) (hS : VS w aS nS cS S) (hA2 : ∀ s ∈ A, s.size ≤ 1048576) (hS2 : ∀ s ∈ S, s.size ≤ 1048576) (hnA : nA ≤ 4096) (hnS : nS ≤ 4096) :
    Calls Try.prog 20 #[.string G, .string R, .slice aA nA cA, .slice aS nS cS] w (NPost (names G R A S) w) := by
  have H := hide (names_any G R aA nA cA A aS nS cS S w hG hR hA hS hA2 hS2 hnA hnS)
  clear hA hS hA2 hS2
  go_enter Try.func20, Try.ntmps20
  go_wp2_with (go_at_call 25; refine (H.out).mono ?_; rintro e w' ⟨g, xs, rfl, h1, h2⟩)
  go_ret
  exact ⟨g, xs, rfl, h1, h2⟩

/-! ### isBase -/
def BPost (w : World) (e : Ending) (w' : World) : Prop := e = .returned (.bool true) ∧ ∃ k, w' = w.drewN k

set_option maxHeartbeats 1000000 in
theorem isBase_any (G R : ByteArray) (aA : Option Addr) (nA cA : Nat) (A : List ByteArray) (g cap : Nat) (w : World) (hA : VS w aA nA cA A) (hnA : nA ≤ 4096) (hcap : nA + 2 ≤ cap) (hcm : cap ≤ maxLen)
    (hc : ∀ j t, (base G R A)[j]? = some t → w.cell? ⟨g, j, none⟩ = some (.string t)) :
    Calls Try.prog 21 #[.slice (some ⟨g, 0, none⟩) (nA + 2) cap, .string G, .string R, .slice aA nA cA] w (BPost w) := by
  obtain ⟨a1, a2, a3, a4⟩ := hA
  unfold maxLen at a3 hcm
  have c0 := hc 0 G (by simp [base])
  have c1 := hc (nA + 1) R (by simp [base, ← a1])
  have c2 : Hid (∀ j t, A[j]? = some t → w.cell? ⟨g, j + 1, none⟩ = some (.string t)) := fun j t ht => hc (j + 1) t (by
    have hj := (List.getElem?_eq_some_iff.1 ht).1
    simp only [base, List.getElem?_cons_succ]
    rw [List.getElem?_append_left hj]; exact ht)
  clear hc
  go_enter Try.func21, Try.ntmps21
  go_wp2
  go_loopw [9] (fun i wr => ∃ k d : Nat, k ≤ nA ∧ i = .int .i64 k ∧ wr = w.drewN d) (fun i _ => nA - (intOf i).toNat)
  case atStart => exact ⟨0, 0, Nat.zero_le _, rfl, rfl⟩
  case round =>
    obtain ⟨k, d, hk, rfl, hw⟩ := hrel
    subst hw
    by_cases hlt : k < nA
    · obtain ⟨b, off, hx, hblt, hcA⟩ := a4 (by omega)
      subst hx
      have hkA : k < A.length := by omega
      have d1 := hcA k A[k] (by simp [hkA])
      have d2 := c2.out k A[k] (by simp [hkA])
      obtain ⟨t, ht⟩ : ∃ t, A[k] = t := ⟨_, rfl⟩
      rw [ht] at d1 d2
      clear ht hcA a4
      have l1 : (k : Int) < (nA : Int) := by omega
      have l2 : (k : Int) + 1 < (nA : Int) + 2 := by omega
      go_wp2
      go_region
      all_goals go_wp2
      all_goals (
        go_roundw
        case rel => exact ⟨k + 1, d + 1, by omega, by go_num, rfl⟩
        case measure => simp [intOf]; omega)
    · obtain rfl : nA = k := by omega
      clear a4
      go_wp2
      go_ret
      exact ⟨rfl, d, rfl⟩

/-! ### plain: the cut -/
theorem names_cut (G R : ByteArray) (A S : List ByteArray) (c : Nat) : names G R A S = names G R A (S.take c) ++ (names G R A (S.drop c)).drop (A.length + 2) := by
  have h : (names G R A (S.drop c)).drop (A.length + 2) = (S.drop c).flatMap (fun s => (base G R A).map (cat s)) := by
    unfold names; rw [← len_base G R A]; exact List.drop_left
  rw [h]
  unfold names
  rw [List.append_assoc, ← List.flatMap_append, List.take_append_drop]

theorem names_base (G R : ByteArray) (A S : List ByteArray) (j : Nat) (t : ByteArray) (h : (base G R A)[j]? = some t) : (names G R A S)[j]? = some t := by
  unfold names
  rw [List.getElem?_append_left (List.getElem?_eq_some_iff.1 h).1]; exact h

theorem cut_left (G R : ByteArray) (A S : List ByteArray) (c i : Nat) (hi : i < (names G R A (S.take c)).length) : (names G R A S)[i]? = (names G R A (S.take c))[i]? := by
  rw [names_cut G R A S c, List.getElem?_append_left hi]
theorem cut_right (G R : ByteArray) (A S : List ByteArray) (c i : Nat) (hi : A.length + 2 ≤ i) : (names G R A S)[(names G R A (S.take c)).length + i - (A.length + 2)]? = (names G R A (S.drop c))[i]? := by
  rw [names_cut G R A S c, List.getElem?_append_right (by omega), List.getElem?_drop]
  congr 1
  omega
theorem cut_len (G R : ByteArray) (A S : List ByteArray) (c : Nat) : (names G R A S).length + (A.length + 2) = (names G R A (S.take c)).length + (names G R A (S.drop c)).length := by
  have h := congrArg List.length (names_cut G R A S c)
  have h2 := len_names G R A (S.drop c)
  have h3 : A.length + 2 ≤ (names G R A (S.drop c)).length := by rw [h2]; exact Nat.le_mul_of_pos_right _ (by omega)
  rw [List.length_append, List.length_drop] at h
  omega
end Go.Proofs.Qxb6003646a
