/-
  zzEqualStrings and zzFlat, walked. Not trusted: the kernel checks it.
-/
import Derived.Test.Qxb6606313aSort
namespace Go.Proofs.Qxb6606313a
open Go.RowKit Go.Deep
set_option linter.unusedVariables false

set_option maxHeartbeats 1000000 in
theorem eq12 (a b : Option Addr) (n c d : Nat) (l : List ByteArray) (w : World) (h1 : VS w a n c l) (h2 : VS w b n d l) :
    Calls Try.prog 12 #[.slice a n c, .slice b n d] w fun e w' => e = .returned (.bool true) ∧ Below w.heap.size w w' := by
  have H1 := hide h1
  have H2 := hide h2
  have hn := h1.2.2.1
  have hnc := h1.2.1
  unfold maxLen at hn
  clear h1 h2
  go_enter Try.func12, Try.ntmps12
  go_wp2
  go_loopw [5] (fun i wr => ∃ k : Nat, k ≤ n ∧ i = .int .i64 k ∧ Below w.heap.size w wr) (fun i _ => n - (intOf i).toNat)
  case atStart => exact ⟨0, Nat.zero_le _, rfl, Below.refl _ _⟩
  case round =>
    obtain ⟨k, hk, rfl, hb⟩ := hrel
    have HB := hide hb
    clear hb
    by_cases hlt : k < n
    · have w1 := H1.out.below HB.out
      have w2 := H2.out.below HB.out
      have hkl : k < l.length := by have := w1.1; omega
      obtain ⟨b1, o1, r1, -, c1⟩ := w1.2.2.2 (by omega)
      obtain ⟨b2, o2, r2, -, c2⟩ := w2.2.2.2 (by omega)
      subst r1 r2
      have d1 := c1 k l[k] (by simp [hkl])
      have d2 := c2 k l[k] (by simp [hkl])
      obtain ⟨s, hs⟩ : ∃ s, l[k] = s := ⟨_, rfl⟩
      rw [hs] at d1 d2
      clear hs c1 c2 w1 w2
      go_wp2
      go_region
      go_wp2
      go_roundw
      case rel => exact ⟨k + 1, by omega, by go_num, HB.out.drew⟩
      case measure => simp [intOf]; omega
    · go_wp2
      go_ret
      exact ⟨rfl, HB.out⟩

theorem cell_lt {w : World} {p : Addr} {v : Value} (h : w.cell? p = some v) : p.block < w.heap.size := by
  by_cases hh : p.block < w.heap.size
  · exact hh
  · have : w.heap[p.block]? = none := Array.getElem?_eq_none (by omega)
    simp [World.cell?, this] at h
theorem BV.below {w w' : World} {a : Option Addr} {n c : Nat} {L : List Blk} (h : BV w a n c L) (hb : Below w.heap.size w w') : BV w' a n c L := by
  obtain ⟨h1, h2, h3, h4, h5⟩ := h
  refine ⟨h1, h2, h3, fun p hp => Blk.ok_of (h4 p hp) (hb.block _ (Blk.lt (h4 p hp))), fun hn => ?_⟩
  obtain ⟨G, rfl, hc⟩ := h5 hn
  exact ⟨G, rfl, fun t p hp => (hb.cell (cell_lt (hc t p hp))).trans (hc t p hp)⟩
theorem Dst.app {w w3 : World} {gd n : Nat} {xd xd' : List Value} {D : List ByteArray} (h : Dst w gd n xd D) {key : ByteArray} (h1 : w3.heap[gd]? = some (.cells xd'.toArray 9 (0, 0))) (h2 : xd'.take (D.length + 1) = xd.take D.length ++ [.string key]) (h3 : xd'.length = n) (h4 : D.length + 1 ≤ n) :
    Dst w3 gd n xd' (D ++ [key]) := by
  refine ⟨h1, h3, ?_, by simpa using h4⟩
  rw [List.length_append, List.length_singleton, h2, h.2.2.1]; simp

def LPost (w : World) (l : List ByteArray) (e : Ending) (w' : World) : Prop :=
  ∃ xd, e = .returned (.slice (some ⟨w.heap.size, 0, none⟩) l.length l.length) ∧ Dst w' w.heap.size l.length xd l ∧ Below w.heap.size w w'

set_option maxHeartbeats 2000000 in
set_option maxRecDepth 100000 in
theorem flat13 (a : Option Addr) (n c : Nat) (L : List Blk) (w : World) (hv : BV w a n c L) (hb : (keysOf L).flatten.length ≤ 4096) :
    Calls Try.prog 13 #[.slice a n c] w (LPost w (keysOf L).flatten) := by
  have C18 := hide (count18 a n c L w hv (by omega))
  obtain ⟨T, hT⟩ : ∃ T, (keysOf L).flatten.length = T := ⟨_, rfl⟩
  rw [hT] at C18 hb
  have HT := hide hT
  have hv1 := hv.1
  have hv2 := hv.2.1
  have hv3 := hv.2.2.1
  unfold maxLen at hv3
  have HV := hide hv
  have hmk := make0 T hb
  have A0 : Hid (Dst (w.alloc (.cells (List.replicate T (Value.string ByteArray.empty)).toArray 9)) w.heap.size T (List.replicate T (Value.string ByteArray.empty)) []) :=
    ⟨Go.heap_alloc_new w _, by simp, by simp, by simp⟩
  have B0 : Hid (Below w.heap.size w (w.alloc (.cells (List.replicate T (Value.string ByteArray.empty)).toArray 9))) := (Below.refl _ _).alloc (Nat.le_refl _) _
  clear hT hv
  go_enter Try.func13, Try.ntmps13
  go_wp2_with fail
  refine (C18.out).mono ?_
  rintro e w ⟨rfl, rfl⟩
  go_wp2
  go_loopw [3, 4] (fun v i wr => ∃ (k : Nat) (D : List ByteArray) (xd : List Value), k ≤ n ∧ i = .int .i64 k ∧ v = .slice (some ⟨w.heap.size, 0, none⟩) D.length T ∧ D = ((keysOf L).take k).flatten ∧ Dst wr w.heap.size T xd D ∧ Below w.heap.size w wr) (fun _ i _ => n - (intOf i).toNat)
  case atStart => exact ⟨0, [], _, Nat.zero_le _, rfl, rfl, by simp, A0.out, B0.out⟩
  case round =>
    clear A0 B0 hmk C18
    obtain ⟨k, D, xd, hk, rfl, rfl, hD, hDs, hB⟩ := hrel
    have HD := hide hD
    have HS := hide hDs
    have HB := hide hB
    clear hD hDs hB
    by_cases hlt : k < n
    case neg =>
      have hf : D = (keysOf L).flatten := by rw [HD.out, List.take_of_length_le (by rw [keys_len]; omega)]
      have hDT : D.length = T := by rw [hf]; exact HT.out
      have HF' := hide hf
      have HDT := hide hDT
      clear hf
      go_wp2
      go_ret
      refine ⟨xd, ?_, ?_, HB.out⟩
      · rw [← HF'.out, HDT.out]; rfl
      · rw [← HF'.out, HDT.out]; exact HS.out
    have hkl : k < L.length := by omega
    have HV2 := hide (HV.out.below HB.out)
    obtain ⟨G, hx, hc⟩ := HV.out.2.2.2.2 (by omega)
    subst hx
    have HT2 : Hid (((keysOf L).take (k + 1)).flatten = D ++ L[k].k) := by
      unfold Hid
      rw [List.take_succ_eq_append_getElem (by rw [keys_len]; exact hkl), List.flatten_append, HD.out]
      simp [keysOf]
    have hle : (D ++ L[k].k).length ≤ T := by
      have := flat_take_le (keysOf L) (k + 1)
      rw [HT2.out, HT.out] at this
      exact this
    have HCK : Hid (∀ w', Below w.heap.size w w' → w'.cell? ⟨G, k, none⟩ = some L[k].val) := fun w' hb => (hb.cell (p := ⟨G, k, none⟩) (cell_lt (hc k L[k] (by simp [hkl])))).trans (hc k L[k] (by simp [hkl]))
    have HOK : Hid (∀ w', Below w.heap.size w w' → L[k].ok w') := fun w' hb => Blk.ok_of (HV.out.2.2.2.1 L[k] (by simp)) (hb.block _ (Blk.lt (HV.out.2.2.2.1 L[k] (by simp))))
    obtain ⟨p, hp⟩ : ∃ p, L[k] = p := ⟨_, rfl⟩
    rw [hp] at HT2 hle HCK HOK
    clear hp hc HV2
    unfold Blk.val at HCK
    rw [List.length_append] at hle
    go_wp2
    obtain ⟨wo, rfl⟩ : ∃ wo : World, wo = wr := ⟨_, rfl⟩
    go_loopw [3, 5] (fun v i wr => ∃ (j : Nat) (E : List ByteArray) (xd : List Value), j ≤ p.k.length ∧ i = .int .i64 j ∧ v = .slice (some ⟨w.heap.size, 0, none⟩) E.length T ∧ E = D ++ p.k.take j ∧ Dst wr w.heap.size T xd E ∧ Below w.heap.size w wr) (fun _ i _ => p.k.length - (intOf i).toNat)
    case atStart => exact ⟨0, D, xd, Nat.zero_le _, rfl, rfl, by simp, HS.out, HB.out⟩
    case round =>
      obtain ⟨j, E, xe, hj, rfl, rfl, hE, hEs, hEb⟩ := hrel
      have HE := hide hE
      have HES := hide hEs
      have HEB := hide hEb
      clear hE hEs hEb
      have hEl : E.length = D.length + j := by rw [HE.out]; simp; omega
      have hcG := HCK.out wr HEB.out
      by_cases hjl : j < p.k.length
      · have hcj := Blk.cell (HOK.out wr HEB.out) j p.k[j] (by simp [hjl])
        have HE2 : Hid (D ++ p.k.take (j + 1) = E ++ [p.k[j]]) := by
          unfold Hid
          rw [List.take_succ_eq_append_getElem hjl, ← List.append_assoc, ← HE.out]
        obtain ⟨s, hs⟩ : ∃ s, p.k[j] = s := ⟨_, rfl⟩
        rw [hs] at hcj HE2
        have hgl : w.heap.size < wr.heap.size := (Array.getElem?_eq_some_iff.1 HES.out.1).1
        have hxl2 : T = xe.length := HES.out.2.1.symm
        have XC := hide hxl2
        clear hs hxl2
        go_wp2_with (at_builtin; refine wpList_app rfl (.tmp 24) (.tmp 32) 22 rfl 9 (.string ByteArray.empty) 16 Try.underlying22 Try.info9 rfl w.heap.size E.length T xe rfl ((Below.heap_alloc wr _ _ hgl).trans HES.out.1) (by omega) XC.out (by unfold maxLen; omega) (some ⟨wr.heap.size, 0, none⟩) 1 1 [Value.string s] rfl rfl (src_one wr s) (strs_one [s]) (by unfold maxLen; omega) (by omega) ?_; intro g1 xs1 w3 H3)
        obtain ⟨q1, q2, q3, q4, q5, q6, q7, q8⟩ := H3.out
        obtain ⟨e1, e2⟩ := q8 (by omega)
        subst e1
        have HN := hide (HES.out.app q1 q2 e2 (by omega))
        have HNB : Hid (Below w.heap.size w w3) := (HEB.out.alloc HEB.out.size _).trans (q5.below (fun k hk e => by omega) (by simp; omega))
        rw [e2]
        clear q1 q2 q3 q4 q5 q6 q7 q8 H3 e2 XC hcG hcj
        go_wp2
        go_roundw
        case rel => exact ⟨j + 1, _, _, by omega, by go_num, by simp; omega, HE2.out.symm, HN.out, HNB.out⟩
        case measure => simp [intOf]; omega
      · have hje : Hid (E = D ++ p.k) := by unfold Hid; rw [HE.out, List.take_of_length_le (by omega)]
        go_wp2
        go_roundw
        case rel => exact ⟨k + 1, E, _, by omega, by go_num, rfl, by rw [HT2.out, hje.out], HES.out, HEB.out⟩
        case measure => simp [intOf]; omega
end Go.Proofs.Qxb6606313a
