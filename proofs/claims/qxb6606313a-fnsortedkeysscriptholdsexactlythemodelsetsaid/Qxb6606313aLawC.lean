/-
  zzPlay, and the law 'FnSortedKeysScriptHoldsExactlyTheModelSet' (function 5), walked. Not trusted: the kernel checks it.
-/
import Derived.Test.Qxb6606313aRemAny
namespace Go.Proofs.Qxb6606313a
open Go.RowKit Go.Deep
set_option linter.unusedVariables false

def PPost (w0 : World) (bs n : Nat) (e : Ending) (w' : World) : Prop :=
  ∃ gd F K D xd, e = .returned (.tuple #[.slice (some ⟨gd, 0, none⟩) (D : List ByteArray).length n, .bool true]) ∧ PW w0 bs gd n F K D xd w'

set_option maxHeartbeats 4000000 in
set_option maxRecDepth 100000 in
theorem play20 (w0 : World) (bs : Nat) (a : Option Addr) (n c : Nat) (l : List ByteArray) (pa : Option Addr) (pc : Nat) (w : World) (hv : VS w0 a n c l) (hb : VB w0 pa n pc) (hn : n ≤ 4096) (hw : Below w0.heap.size w0 w)
    (hst : w.heap[bs]? = some (.cells #[.slice none 0 0] 41 (0, 0))) (hbs : w0.heap.size ≤ bs) :
    Calls Try.prog 20 #[.pointer (some ⟨bs, 0, none⟩), .slice a n c, .slice pa n pc, .bool false] w (PPost w0 bs n) := by
  have hcm := hv.2.2.1
  have hnc := hv.2.1
  unfold maxLen at hcm
  have HV := hide hv
  have HB := hide hb
  have hpm := hb.2.1
  have hpc := hb.1
  unfold maxLen at hpm
  have hmk := make0 n hn
  have A0 : Hid (PW w0 bs w.heap.size n [bs] [] [] (List.replicate n (Value.string ByteArray.empty)) (w.alloc (.cells (List.replicate n (Value.string ByteArray.empty)).toArray 9))) := by
    have hlt : bs < w.heap.size := (Array.getElem?_eq_some_iff.1 hst).1
    refine ⟨.inl ⟨rfl, rfl, none, 0, (Below.heap_alloc _ _ _ hlt).trans hst, Nat.zero_le _⟩, ⟨Go.heap_alloc_new w _, by simp, by simp, by simp⟩, ⟨by simp, by simp [Srt], by simp⟩, List.Perm.refl _, by simp; omega, by simp; omega, hw.size, hw.alloc hw.size _⟩
  clear hv hb hst hw
  go_enter Try.func20, Try.ntmps20
  go_wp2
  go_loopw [10, 11] (fun v i wr => ∃ (k : Nat) (F : List Nat) (K : List (List ByteArray)) (D : List ByteArray) (xd : List Value), k ≤ n ∧ i = .int .i64 k ∧ v = .slice (some ⟨w.heap.size, 0, none⟩) D.length n ∧ D.length ≤ k ∧ PW w0 bs w.heap.size n F K D xd wr) (fun _ i _ => n - (intOf i).toNat)
  case atStart => exact ⟨0, [bs], [], [], _, Nat.zero_le _, rfl, rfl, Nat.le_refl _, A0.out⟩
  case round =>
    clear A0 hmk
    obtain ⟨k, F, K, D, xd, hk, rfl, rfl, hDk, hA⟩ := hrel
    have HA := hide hA
    clear hA
    by_cases hlt : k < n
    case neg =>
      go_wp2
      go_ret2
      exact ⟨w.heap.size, F, K, D, xd, rfl, HA.out⟩
    obtain ⟨b, off, hx, hblt, hc⟩ := HV.out.2.2.2 (by omega)
    obtain ⟨b2, off2, hx2, hblt2, hc2⟩ := HB.out.2.2 (by omega)
    subst hx hx2
    have hkl : k < l.length := by have := HV.out.1; omega
    obtain ⟨pv, hpv⟩ := hc2 k hlt
    have hck := (HA.out.be.cell (p := ⟨b, off + k, none⟩) hblt).trans (hc k l[k] (by simp [hkl]))
    have hcb := (HA.out.be.cell (p := ⟨b2, off2 + k, none⟩) hblt2).trans hpv
    obtain ⟨s, hs⟩ : ∃ s, l[k] = s := ⟨_, rfl⟩
    rw [hs] at hck
    clear hs hc hc2 hpv
    have IX := hide (idx9 (some ⟨w.heap.size, 0, none⟩) D.length n D s wr (HA.out.ds.vs (by unfold maxLen; omega)))
    go_wp2_with fail
    refine (IX.out).mono ?_
    rintro e wr ⟨r2, rfl, rfl, hr2⟩
    cases pv with
    | true =>
      rcases hr2 with ⟨j, rfl, hj⟩ | ⟨rfl, hno⟩
      · clear hj
        go_wp2
        go_roundw
        case rel => exact ⟨k + 1, F, K, D, xd, by omega, by go_num, rfl, by omega, HA.out⟩
        case measure => simp [intOf]; omega
      · have AD := hide (zzadd_any bs F K s wr HA.out.st HA.out.inv (by have := HA.out.kl; omega))
        have HNo := hide hno
        clear hno IX
        go_wp2_with fail
        refine (AD.out).mono ?_
        rintro e w2 ⟨rfl, F', hS2, hT2, hF2⟩
        have hgdl : w.heap.size < wr.heap.size := (Array.getElem?_eq_some_iff.1 HA.out.ds.1).1
        have hgd2 : w2.heap[w.heap.size]? = some (.cells xd.toArray 9 (0, 0)) := (hT2.block _ hgdl HA.out.nF).trans HA.out.ds.1
        have hxl2 : n = xd.length := HA.out.ds.2.1.symm
        have SC := hide hS2
        have TC := hide hT2
        have FC := hide hF2
        have GC := hide hgd2
        have XC := hide hxl2
        clear hS2 hT2 hF2 hgd2 AD hxl2 hck hcb
        go_wp2_with (at_builtin; refine wpList_app rfl (.tmp 41) (.tmp 43) 22 rfl 9 (.string ByteArray.empty) 16 Try.underlying22 Try.info9 rfl w.heap.size D.length n xd rfl ((Below.heap_alloc w2 _ _ (by have := TC.out.size; omega)).trans GC.out) (by omega) XC.out (by unfold maxLen; omega) (some ⟨w2.heap.size, 0, none⟩) 1 1 [Value.string s] rfl rfl (src_one w2 s) (strs_one [s]) (by unfold maxLen; omega) (by omega) ?_; intro g1 xs1 w3 H3)
        obtain ⟨q1, q2, q3, q4, q5, q6, q7, q8⟩ := H3.out
        obtain ⟨e1, e2⟩ := q8 (by omega)
        subst e1
        have HN := hide (HA.out.next HNo.out SC.out TC.out FC.out q1 q2 e2 (by omega) q5)
        rw [e2]
        clear q1 q2 q3 q4 q5 q6 q7 q8 H3 e2 XC SC TC FC GC HA HNo
        go_wp2
        go_roundw
        case rel => exact ⟨k + 1, F', addK K s, D ++ [s], xs1, by omega, by go_num, by simp, by simp; omega, HN.out⟩
        case measure => simp [intOf]; omega
    | false =>
      have RM := hide (zzrem_any bs F K s wr HA.out.st HA.out.inv (by have := HA.out.kl; omega))
      have HR2 := hide hr2
      clear IX hr2
      go_wp2_with fail
      refine (RM.out).mono ?_
      rintro e w2 ⟨rfl, F', K', hS2, hP2, hT2, hF2⟩
      obtain ⟨t1, t2, t3, t4, t5⟩ := HA.out.turn hS2 hT2 hF2
      rcases HR2.out with ⟨j, rfl, hj⟩ | ⟨rfl, hno⟩
      · have hjl : j < D.length := (List.getElem?_eq_some_iff.1 hj).1
        have hsm : s ∈ K.flatten := HA.out.perm.mem_iff.2 (List.mem_of_getElem? hj)
        have hpp : K.flatten.Perm (s :: K'.flatten) := hP2.2.1 hsm
        have hdl : D[D.length - 1]? = some D[D.length - 1] := by simp
        obtain ⟨last, hlast⟩ : ∃ last, D[D.length - 1] = last := ⟨_, rfl⟩
        rw [hlast] at hdl
        have hsw := swap_out D j s last hj hdl
        obtain ⟨d, hd⟩ : ∃ d, D.length = d + 1 := ⟨D.length - 1, by omega⟩
        have hc1 := t2.cell (D.length - 1) last hdl
        have hc2 := t2.cell j s hj
        have hf1 := t2.frozen j
        have hds := t2.set j last hjl
        have hT3 : Touch (· = w.heap.size) w2 (w2.setCell ⟨w.heap.size, j, none⟩ (.string last)) := (Touch.refl (· = w.heap.size) w2).setCell (p := ⟨w.heap.size, j, none⟩) (fun _ => rfl) (.string last)
        have HN : Hid (PW w0 bs w.heap.size n F' K' (D.set j last).dropLast (xd.set j (.string last)) (w2.setCell ⟨w.heap.size, j, none⟩ (.string last))) := by
          refine ⟨t1.gone t3 hT3, hds.shrink, hP2.1, ?_, t3, t4, HA.out.bg, t5.trans (hT3.below (fun k hk e => by have := HA.out.bg; omega) t5.size)⟩
          exact List.Perm.cons_inv (hpp.symm.trans (HA.out.perm.trans hsw))
        have HD : Hid ((D.set j last).dropLast.length = d) := by unfold Hid; simp; omega
        rw [hd] at hc1 hjl hDk ⊢
        simp only [Nat.add_sub_cancel] at hc1
        have hq : ((d : Int) + 1 - 1).toNat = d := by omega
        clear hj hsm hpp hdl hlast hsw hds hT3 t1 t2 t3 t4 t5 hS2 hP2 hT2 hF2 HR2 RM hck hcb
        go_wp2
        go_roundw
        case rel => exact ⟨k + 1, F', K', _, _, by omega, by go_num, by rw [HD.out], by rw [HD.out]; omega, HN.out⟩
        case measure => simp [intOf]; omega
      · have hsm : s ∉ K.flatten := fun e => hno (HA.out.perm.mem_iff.1 e)
        have hKK := hP2.2.2 hsm
        subst hKK
        have HN : Hid (PW w0 bs w.heap.size n F' K' D xd w2) := ⟨t1, t2, hP2.1, HA.out.perm, t3, t4, HA.out.bg, t5⟩
        clear hsm t1 t2 t3 t4 t5 hS2 hP2 hT2 hF2 HR2 RM hck hcb hno
        go_wp2
        go_roundw
        case rel => exact ⟨k + 1, F', K', D, xd, by omega, by go_num, rfl, by omega, HN.out⟩
        case measure => simp [intOf]; omega

set_option maxHeartbeats 4000000 in
set_option maxRecDepth 100000 in
theorem walkC (a : Option Addr) (n c : Nat) (l : List ByteArray) (pa : Option Addr) (pn pc : Nat) (w : World) (hv : VS w a n c l) (hl : ∀ s ∈ l, s.size ≤ maxLen) (hb : VB w pa pn pc) :
    Calls Try.prog 5 #[.slice a n c, .slice pa pn pc] w fun e w' => e = .returned (.bool true) ∧ Below w.heap.size w w' := by
  have Z := hide (zz19 a n c l pa pn pc w hv hl hb)
  have SB := hide (sb7 a n c l w hv)
  have HV := hide hv
  have HB := hide hb
  have hcm := hv.2.2.1
  have hnc := hv.2.1
  unfold maxLen at hcm
  have hpm := hb.2.1
  have hpc := hb.1
  unfold maxLen at hpm
  clear hv hl hb
  go_enter Try.func5, Try.ntmps5
  go_wp2_with fail
  refine (Z.out).mono ?_
  rintro e w ⟨b, rfl, rfl⟩
  cases b
  case false =>
    go_wp2
    go_ret
    exact ⟨rfl, Below.refl _ _⟩
  by_cases hn : n ≤ 4096
  case neg =>
    have d1 : decide ((4096 : Int) < (n : Int)) = true := by simp; omega
    go_wp2
    go_ret
    exact ⟨rfl, Below.refl _ _⟩
  have d1 : decide ((4096 : Int) < (n : Int)) = false := by simp; omega
  by_cases hp : pn ≤ 4096
  case neg =>
    have d2 : decide ((4096 : Int) < (pn : Int)) = true := by simp; omega
    go_wp2
    go_ret
    exact ⟨rfl, Below.refl _ _⟩
  have d2 : decide ((4096 : Int) < (pn : Int)) = false := by simp; omega
  go_wp2_with fail
  refine (SB.out).mono ?_
  rintro e w ⟨r, rfl, rfl⟩
  by_cases hr : 1048576 < wrap64 (r + (pn : Int))
  case pos =>
    go_wp2
    go_ret
    exact ⟨rfl, Below.refl _ _⟩
  by_cases hpn : pn = n
  case neg =>
    have d3 : ((pn : Int) != (n : Int)) = true := by simp; omega
    go_wp2
    go_ret
    exact ⟨rfl, Below.refl _ _⟩
  subst hpn
  go_wp2_with fail
  refine (new8 w).mono ?_
  rintro e w1 ⟨rfl, rfl⟩
  have PL := hide (play20 w w.heap.size a pn c l pa pc (w.alloc (.cells #[.slice none 0 0] 41)) HV.out HB.out hn ((Below.refl _ _).alloc (Nat.le_refl _) _) (Go.heap_alloc_new w _) (Nat.le_refl _))
  clear Z SB
  go_wp2_with fail
  refine (PL.out).mono ?_
  rintro e wr ⟨gd, F, K, D, xd, rfl, hA⟩
  have HA := hide hA
  clear hA
  have S11 := hide (sort11 gd pn xd D wr HA.out.ds (by omega))
  have hDn := HA.out.ds.2.2.2
  go_wp2_with fail
  refine (S11.out).mono ?_
  rintro e w2 ⟨rfl, xd', D', hd2, hp2, hs2, ht2⟩
  have hst2 : St w2 w.heap.size F K := HA.out.st.gone HA.out.nF ht2
  have hb2 : Below w.heap.size w w2 := HA.out.be.trans (ht2.below (fun k hk e => by have := HA.out.bg; omega) HA.out.be.size)
  have heq : D' = K.flatten := srt_unique hs2 (HA.out.inv.srt.le) (hp2.trans HA.out.perm.symm)
  have hlD : D'.length = D.length := hp2.length_eq
  have v2 := hide (hd2.vs (by unfold maxLen; omega))
  obtain ⟨va, vn, vc, vL, hvk, hvb, hvc⟩ := hst2.view
  have hbl : (keysOf vL).flatten = D' := by rw [hvk, heq]
  have O14 := hide (blocks14 w.heap.size _ w2 hvc)
  have O13 := hide (flat13 va vn vc vL w2 hvb (by rw [hbl]; omega))
  rw [hbl] at O13
  have HB2 := hide hb2
  have HL := hide hlD
  clear hst2 hb2 heq hvk hvb hvc hbl ht2 hp2 hs2 hd2 HA S11 hlD
  go_wp2_with fail
  refine (O14.out).mono ?_
  rintro e w2 ⟨rfl, rfl⟩
  go_wp2_with fail
  refine (O13.out).mono ?_
  rintro e w3 ⟨xf, rfl, hdf, hbf⟩
  have O12 := hide (eq12 _ _ D'.length D'.length pn D' w3 (hdf.vs (by unfold maxLen; have := HL.out; omega)) (v2.out.below hbf))
  rw [HL.out] at O12
  have HB3 : Hid (Below w.heap.size w w3) := HB2.out.trans (hbf.mono HB2.out.size)
  rw [HL.out]
  clear hdf hbf
  go_wp2_with fail
  refine (O12.out).mono ?_
  rintro e w4 ⟨rfl, hb4⟩
  have HB4 : Hid (Below w.heap.size w w4) := HB3.out.trans (hb4.mono HB3.out.size)
  clear hb4
  go_wp2
  go_ret
  exact ⟨rfl, HB4.out⟩
end Go.Proofs.Qxb6606313a
