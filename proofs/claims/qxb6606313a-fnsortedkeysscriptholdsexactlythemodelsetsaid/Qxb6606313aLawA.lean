/-
  The law 'FnSortedKeysAddKeepsBlocksOrderedAndHalfFull' (function 4), walked. Not trusted: the kernel checks it.
-/
import Derived.Test.Qxb6606313aHelp
namespace Go.Proofs.Qxb6606313a
open Go.RowKit Go.Deep
set_option linter.unusedVariables false

theorem Rep.of_blocks {w w' : World} {bs G : Nat} {ys : List Value} {L : List Blk} (h : Rep w bs G ys L) (he : ∀ x ∈ bs :: G :: L.map Blk.g, w'.heap[x]? = w.heap[x]?) : Rep w' bs G ys L :=
  ⟨(he bs (by simp)).trans h.ptr, (he G (by simp)).trans h.row, h.ytake, h.yl, h.ym, fun p hp => Blk.ok_of (h.ok p hp) (he p.g (List.mem_cons_of_mem _ (List.mem_cons_of_mem _ (List.mem_map_of_mem hp)))), h.nd⟩
theorem St.of_blocks {w w' : World} {bs : Nat} {F : List Nat} {K : List (List ByteArray)} (h : St w bs F K) (he : ∀ x ∈ F, w'.heap[x]? = w.heap[x]?) : St w' bs F K := by
  rcases h with ⟨rfl, rfl, a, c, h, hc⟩ | ⟨hne, G, ys, L, rfl, hR, rfl⟩
  · exact .inl ⟨rfl, rfl, a, c, (he bs (by simp)).trans h, hc⟩
  · exact .inr ⟨hne, G, ys, L, rfl, hR.of_blocks he, rfl⟩
theorem St.lt {w : World} {bs : Nat} {F : List Nat} {K : List (List ByteArray)} (h : St w bs F K) : ∀ x ∈ F, x < w.heap.size := by
  intro x hx
  rcases h with ⟨rfl, rfl, a, c, h, hc⟩ | ⟨hne, G, ys, L, rfl, hR, rfl⟩
  · simp at hx; subst hx; exact (Array.getElem?_eq_some_iff.1 h).1
  · rcases List.mem_cons.1 hx with rfl | hx
    · exact (Array.getElem?_eq_some_iff.1 hR.ptr).1
    · rcases List.mem_cons.1 hx with rfl | hx
      · exact (Array.getElem?_eq_some_iff.1 hR.row).1
      · obtain ⟨p, hp, rfl⟩ := List.mem_map.1 hx; exact Blk.lt (hR.ok p hp)

/-- the slice 'distinct', in the row gd of n cells: it holds D -/
def Dst (w : World) (gd n : Nat) (xd : List Value) (D : List ByteArray) : Prop :=
  w.heap[gd]? = some (.cells xd.toArray 9 (0, 0)) ∧ xd.length = n ∧ xd.take D.length = D.map Value.string ∧ D.length ≤ n
theorem Dst.vs {w : World} {gd n : Nat} {xd : List Value} {D : List ByteArray} (h : Dst w gd n xd D) (hn : n ≤ maxLen) : VS w (some ⟨gd, 0, none⟩) D.length n D := by
  obtain ⟨h1, h2, h3, h4⟩ := h
  refine ⟨rfl, h4, hn, fun _ => ⟨gd, 0, rfl, (Array.getElem?_eq_some_iff.1 h1).1, fun i s hs => ?_⟩⟩
  rw [Nat.zero_add, cell_of_row w gd i xd.toArray 9 (0, 0) h1, List.getElem?_toArray]
  have hj : i < D.length := (List.getElem?_eq_some_iff.1 hs).1
  have e : (xd.take D.length)[i]? = xd[i]? := List.getElem?_take_of_lt hj
  rw [← e, h3, List.getElem?_map, hs]; rfl

theorem src_one (w : World) (s : ByteArray) : 0 < 1 → ∃ ad, some (⟨w.heap.size, 0, none⟩ : Addr) = some ad ∧ ∀ j u, ([Value.string s] : List Value)[j]? = some u → (w.alloc (.cells #[.string s] 9)).cell? (ad.add j) = some u := by
  intro _
  refine ⟨_, rfl, fun j u hu => ?_⟩
  have hj : j = 0 := by
    have := (List.getElem?_eq_some_iff.1 hu).1; simp at this; omega
  subst hj
  simp at hu; subst hu
  simp [Addr.add]

/-- where the loop of adds stands -/
structure AW (w : World) (bs gd n : Nat) (F : List Nat) (K : List (List ByteArray)) (D : List ByteArray) (xd : List Value) (wr : World) : Prop where
  st : St wr bs F K
  ds : Dst wr gd n xd D
  inv : Inv K
  hf : HF K
  perm : K.flatten.Perm D
  nF : gd ∉ F
  bF : ∀ x ∈ F, w.heap.size ≤ x
  bg : w.heap.size ≤ gd
  be : Below w.heap.size w wr

theorem flat_ge {K : List (List ByteArray)} (h : ∀ k ∈ K, k ≠ []) : K.length ≤ K.flatten.length := by
  induction K with
  | nil => simp
  | cons k K ih =>
    have h1 := List.length_pos_iff.2 (h k (by simp))
    have h2 := ih (fun k hk => h k (by simp [hk]))
    simp only [List.flatten_cons, List.length_append, List.length_cons]; omega

theorem AW.kl {w : World} {bs gd n : Nat} {F : List Nat} {K : List (List ByteArray)} {D : List ByteArray} {xd : List Value} {wr : World} (h : AW w bs gd n F K D xd wr) : K.length ≤ D.length := by
  rw [← h.perm.length_eq]; exact flat_ge h.inv.ne

/-- behind an add and the append -/
theorem AW.next {w : World} {bs gd n : Nat} {F : List Nat} {K : List (List ByteArray)} {D : List ByteArray} {xd : List Value} {wr w2 w3 : World} (h : AW w bs gd n F K D xd wr) {key : ByteArray} (hk : key ∉ D)
    {F' : List Nat} (hS : St w2 bs F' (addK K key)) (hT : Touch (· ∈ F) wr w2) (hF : ∀ x ∈ F', x ∈ F ∨ wr.heap.size ≤ x) {xd' : List Value} {o : Obj}
    (h1 : w3.heap[gd]? = some (.cells xd'.toArray 9 (0, 0))) (h2 : xd'.take (D.length + 1) = xd.take D.length ++ [.string key]) (h3 : xd'.length = n) (h4 : D.length + 1 ≤ n) (h5 : Touch (· = gd) (w2.alloc o) w3) :
    AW w bs gd n F' (addK K key) (D ++ [key]) xd' w3 := by
  have hgd : gd < wr.heap.size := (Array.getElem?_eq_some_iff.1 h.ds.1).1
  have hs2 := hT.size
  have hgF' : gd ∉ F' := by
    intro e
    rcases hF gd e with e2 | e2
    · exact h.nF e2
    · omega
  have hkK : key ∉ K.flatten := fun e => hk (h.perm.mem_iff.1 e)
  have hblk : ∀ x, x < w2.heap.size → x ≠ gd → w3.heap[x]? = w2.heap[x]? := fun x hx hn => by
    rw [h5.block x (by simp; omega) hn, Below.heap_alloc _ _ _ hx]
  refine ⟨hS.of_blocks (fun x hx => hblk x (hS.lt x hx) (fun e => hgF' (e ▸ hx))), ⟨h1, h3, ?_, by simpa using h4⟩, add_inv h.inv key hkK, add_hf h.inv h.hf key, ?_, hgF', ?_, h.bg, ?_⟩
  · rw [List.length_append, List.length_singleton, h2, h.ds.2.2.1]; simp
  · refine (add_perm K key).trans ?_
    refine ((h.perm.cons key).trans ?_)
    exact (List.perm_append_singleton key D).symm
  · intro x hx
    rcases hF x hx with e | e
    · exact h.bF x e
    · have := h.be.size; omega
  · have b1 : Below w.heap.size w w2 := h.be.trans (hT.below (fun k hk e => by have := h.bF k e; omega) h.be.size)
    have b2 : Below w.heap.size w (w2.alloc o) := b1.alloc b1.size o
    exact b2.trans (h5.below (fun k hk e => by have := h.bg; omega) (by have := b1.size; simp; omega))

theorem make0 (n : Nat) (hn : n ≤ 4096) : ∀ w : World, (Instr.makeSlice 22 (.int .i64 0) (.int .i64 (n : Int))).run Try.prog w = .ok (.slice (some ⟨w.heap.size, 0, none⟩) 0 n) (w.alloc (.cells (List.replicate n (Value.string ByteArray.empty)).toArray 9)) := by
  intro w
  obtain ⟨i, hi, hzz⟩ := Option.map_eq_some_iff.1 Try.info9
  simp only [Prod.mk.injEq] at hzz
  obtain ⟨hz, hs, hb⟩ := hzz
  have hr := run_make (P := Try.prog) w 22 9 i (.string ByteArray.empty) Try.underlying22 hi hz .i64 .i64 0 n (by omega) (by omega) (by rw [hb]; omega) (by omega)
  rw [hr, hs]
  have e : madeCells (Value.string ByteArray.empty).cells ((n : Int).toNat * 1) = (List.replicate n (Value.string ByteArray.empty)).toArray := by
    rw [Int.toNat_natCast, Nat.mul_one]
    apply Array.ext
    · rw [show (Value.string ByteArray.empty).cells = #[Value.string ByteArray.empty] from rfl, size_madeCells]; simp
    · intro i h1 h2
      simp [madeCells, Value.cells, Nat.mod_one]
  rw [e]; rfl

set_option maxHeartbeats 4000000 in
set_option maxRecDepth 100000 in
theorem walkA (a : Option Addr) (n c : Nat) (l : List ByteArray) (w : World) (hv : VS w a n c l) (hl : ∀ s ∈ l, s.size ≤ maxLen) :
    Calls Try.prog 4 #[.slice a n c] w fun e w' => e = .returned (.bool true) ∧ Below w.heap.size w w' := by
  have Z := hide (zz15 a n c l w hv hl)
  have SB := hide (sb7 a n c l w hv)
  have HV := hide hv
  have hcm := hv.2.2.1
  have hnc := hv.2.1
  unfold maxLen at hcm
  clear hv hl
  go_enter Try.func4, Try.ntmps4
  go_wp2_with fail
  refine (Z.out).mono ?_
  rintro e w ⟨b, rfl, rfl⟩
  cases b
  case false =>
    go_wp2
    go_ret
    exact ⟨rfl, Below.refl _ _⟩
  by_cases hn : n ≤ 4096
  case neg =>
    go_wp2
    go_ret
    exact ⟨rfl, Below.refl _ _⟩
  go_wp2_with fail
  refine (SB.out).mono ?_
  rintro e w ⟨r, rfl, rfl⟩
  by_cases hr : r ≤ 1048576
  case neg =>
    go_wp2
    go_ret
    exact ⟨rfl, Below.refl _ _⟩
  go_wp2_with fail
  refine (new8 w).mono ?_
  rintro e w1 ⟨rfl, rfl⟩
  have hmk := make0 n hn
  have A0 : Hid (AW w w.heap.size (w.heap.size + 1) n [w.heap.size] [] [] (List.replicate n (Value.string ByteArray.empty)) ((w.alloc (.cells #[.slice none 0 0] 41)).alloc (.cells (List.replicate n (Value.string ByteArray.empty)).toArray 9))) := by
    have z1 : (w.alloc (.cells #[.slice none 0 0] 41)).heap.size = w.heap.size + 1 := World.size_alloc _ _
    refine ⟨.inl ⟨rfl, rfl, none, 0, ?_, Nat.zero_le _⟩, ⟨?_, by simp, by simp, by simp⟩, ⟨by simp, by simp [Srt], by simp⟩, fun h => by simp at h, List.Perm.refl _, by simp, by simp, by omega, ((Below.refl _ _).alloc (Nat.le_refl _) _).alloc (by simp) _⟩
    · rw [Below.heap_alloc _ _ _ (by omega)]; exact Go.heap_alloc_new w _
    · rw [← z1]; exact Go.heap_alloc_new _ _
  clear Z SB
  go_wp2
  go_loopw [4, 5] (fun v i wr => ∃ (k : Nat) (F : List Nat) (K : List (List ByteArray)) (D : List ByteArray) (xd : List Value), k ≤ n ∧ i = .int .i64 k ∧ v = .slice (some ⟨w.heap.size + 1, 0, none⟩) D.length n ∧ D.length ≤ k ∧ AW w w.heap.size (w.heap.size + 1) n F K D xd wr) (fun _ i _ => n - (intOf i).toNat)
  case atStart => exact ⟨0, [w.heap.size], [], [], _, Nat.zero_le _, rfl, rfl, Nat.le_refl _, A0.out⟩
  case round =>
    clear A0 hmk
    obtain ⟨k, F, K, D, xd, hk, rfl, rfl, hDk, hA⟩ := hrel
    have HA := hide hA
    clear hA
    by_cases hlt : k < n
    case neg =>
      have HB := hide HA.out.be
      clear HA
      go_wp2
      go_ret
      exact ⟨rfl, HB.out⟩
    obtain ⟨b, off, hx, hblt, hc⟩ := HV.out.2.2.2 (by omega)
    subst hx
    have hkl : k < l.length := by have := HV.out.1; omega
    have hck := (HA.out.be.cell (p := ⟨b, off + k, none⟩) hblt).trans (hc k l[k] (by simp [hkl]))
    obtain ⟨s, hs⟩ : ∃ s, l[k] = s := ⟨_, rfl⟩
    rw [hs] at hck
    have HC : Hid (∀ w', Below w.heap.size w w' → w'.cell? ⟨b, off + k, none⟩ = some (.string s)) := fun w' hb => (hb.cell (p := ⟨b, off + k, none⟩) hblt).trans (by rw [← hs]; exact hc k l[k] (by simp [hkl]))
    clear hs hc
    have IX := hide (idx9 (some ⟨w.heap.size + 1, 0, none⟩) D.length n D s wr (HA.out.ds.vs (by unfold maxLen; omega)))
    go_wp2_with fail
    refine (IX.out).mono ?_
    rintro e wr ⟨r2, rfl, rfl, hr2⟩
    rcases hr2 with ⟨j, rfl, hj⟩ | ⟨rfl, hno⟩
    · clear hj
      go_wp2
      go_roundw
      case rel => exact ⟨k + 1, F, K, D, xd, by omega, by go_num, rfl, by omega, HA.out⟩
      case measure => simp [intOf]; omega
    · have AD := hide (zzadd_any w.heap.size F K s wr HA.out.st HA.out.inv (by have := HA.out.kl; omega))
      have HNo := hide hno
      clear hno IX
      go_wp2_with fail
      refine (AD.out).mono ?_
      rintro e w2 ⟨rfl, F', hS2, hT2, hF2⟩
      have hgdl : w.heap.size + 1 < wr.heap.size := (Array.getElem?_eq_some_iff.1 HA.out.ds.1).1
      have b2 : Below w.heap.size w w2 := HA.out.be.trans (hT2.below (fun k hk e => by have := HA.out.bF k e; omega) HA.out.be.size)
      have hck2 := HC.out w2 b2
      have hgd2 : w2.heap[w.heap.size + 1]? = some (.cells xd.toArray 9 (0, 0)) := (hT2.block _ hgdl HA.out.nF).trans HA.out.ds.1
      have hxl := HA.out.ds.2.1
      have hxl2 : n = xd.length := hxl.symm
      have SC := hide hS2
      have TC := hide hT2
      have FC := hide hF2
      have GC := hide hgd2
      have XC := hide hxl2
      clear hS2 hT2 hF2 hgd2 AD hxl2 hxl hck b2
      go_wp2_with (at_builtin; refine wpList_app rfl (.tmp 39) (.tmp 44) 22 rfl 9 (.string ByteArray.empty) 16 Try.underlying22 Try.info9 rfl (w.heap.size + 1) D.length n xd rfl ((Below.heap_alloc w2 _ _ (by have := TC.out.size; omega)).trans GC.out) (by omega) XC.out (by unfold maxLen; omega) (some ⟨w2.heap.size, 0, none⟩) 1 1 [Value.string s] rfl rfl (src_one w2 s) (strs_one [s]) (by unfold maxLen; omega) (by omega) ?_; intro g1 xs1 w3 H3)
      obtain ⟨q1, q2, q3, q4, q5, q6, q7, q8⟩ := H3.out
      obtain ⟨e1, e2⟩ := q8 (by omega)
      subst e1
      have HN := hide (HA.out.next HNo.out SC.out TC.out FC.out q1 q2 e2 (by omega) q5)
      rw [e2]
      clear q1 q2 q3 q4 q5 q6 q7 q8 H3 e2 XC SC TC FC GC HA HNo HC
      obtain ⟨va, vn, vc, vL, hvk, hvb, hvc⟩ := HN.out.st.view
      have hbl : (keysOf vL).flatten.length = D.length + 1 := by rw [hvk, HN.out.perm.length_eq]; simp
      have O16 := hide (ord16 va vn vc vL w3 hvb (by rw [hvk]; exact HN.out.inv))
      have O17 := hide (half17 va vn vc vL w3 hvb (by rw [hvk]; exact HN.out.hf))
      have O18 := hide (count18 va vn vc vL w3 hvb (by omega))
      rw [hbl] at O18
      have O14 := hide (blocks14 w.heap.size _ w3 hvc)
      have hnn : (((D.length + 1 : Nat) : Int) != (D.length : Int) + 1) = false := by simp
      clear hvk hvb hvc hbl
      refine (O14.out).mono ?_
      rintro e w3 ⟨rfl, rfl⟩
      go_wp2_with (first | (go_at_call 16; refine (O16.out).mono ?_; rintro e w3 ⟨rfl, rfl⟩) | (go_at_call 17; refine (O17.out).mono ?_; rintro e w3 ⟨rfl, rfl⟩) | (go_at_call 18; refine (O18.out).mono ?_; rintro e w3 ⟨rfl, rfl⟩))
      go_roundw
      case rel => exact ⟨k + 1, F', addK K s, D ++ [s], xs1, by omega, by go_num, by simp, by simp; omega, HN.out⟩
      case measure => simp [intOf]; omega
end Go.Proofs.Qxb6606313a
