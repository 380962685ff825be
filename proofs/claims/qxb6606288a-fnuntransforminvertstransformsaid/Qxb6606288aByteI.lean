/-
  sortSuffixes at byte, walked: the twin of the text for int32. Not trusted: the kernel checks it.
-/
import Derived.Test.Qxb6606288aByteG
import Derived.Deep.RegionLaw
namespace Go.Proofs.Qxb6606288a
open Go.RowKit Go.Deep
set_option linter.unusedVariables false

set_option maxHeartbeats 40000000 in
set_option maxRecDepth 100000 in
theorem tail24_16 (s : List Nat) (x : Cx) (f0 : Nat → Value) (cs ca n m r so cso : Nat) (rk : Int) (A0 : Nat → Int) (T0 : Nat → Nat) (pl po l0 lc' NL bx : Nat) (F1 : Nat → Value) (la2 : Option Addr) (w : World) (B w0 : World) (P : Ending → World → Prop) (hc : TC s x cs ca n) (ht : TM s x n m r so cso) (HG : Hid (GB x pl po l0 lc' NL bx F1 la2 w B))
    (IH : Hid (∀ s' : List Nat, s'.length < s.length → SortSpec s'))
    (HW : Hid (IW s x f0 (fun i => .int .u8 (Sais.c s i : Nat)) B A0 T0 w0)) (HA : Hid (∀ t, t < m → A0 (r + t) = (Sais.c (Sais.red s) t : Nat))) (HRK : Hid ((m = 0 ∧ rk = -1) ∨ (0 < m ∧ rk = (Sais.rkf s (Sais.R1 s) (m - 1) : Nat))))
    (hP : Hid (∀ SA T' B' w', Sais.IsSA s SA → IW s x f0 (fun i => .int .u8 (Sais.c s i : Nat)) B' (fun y => (SA.getD y 0 : Int)) T' w' → GQ n x pl po l0 NL F1 w B' → P (.returned (.tuple #[])) w'))
    (t2 t4 t5 t6 t7 t9 t12 t14 t15 t17 t18 t19 t20 t22 t23 t25 t26 t27 t28 t29 t30 t31 t32 t33 t34 t35 t36 t37 t38 t39 t40 t41 t42 t43 t44 t45 t46 t47 t48 t49 t50 t51 t52 t53 t54 t55 t56 t57 t58 t59 t60 t61 t62 t63 t64 t65 t66 t67 t68 t69 t70 t71 t72 t73 t74 t75 t76 t77 t78 t79 t80 t81 t82 t83 t84 t85 t86 t87 t88 t89 t90 t91 t92 t93 t94 t95 t96 t97 t98 t99 t100 t101 t102 t103 t104 t105 t106 t107 t108 t109 t110 t111 t112 t113 t114 t115 t116 t117 t118 t119 t120 t121 t122 t123 t124 t125 t126 t127 t128 t129 t130 t131 t132 t133 t134 t135 t136 t137 t138 t139 t140 t141 t142 t143 t144 t145 t146 t147 t148 t149 t150 t151 t152 t153 t154 t155 t156 t157 t158 t159 t160 t161 t162 t163 t164 t165 t166 t167 t168 t169 t170 t171 t172 t173 t174 t175 t176 t177 t178 t179 t180 t181 t182 t183 t184 t185 t186 t187 t188 t189 t190 t191 t192 t193 t194 t195 t196 t197 t198 t199 t200 t201 t202 t203 t204 t205 t206 t207 t208 t209 t210 t211 t212 t213 t214 t215 t216 t217 t218 t219 t220 t221 t222 t223 t224 t225 t226 t227 t228 t229 t230 t231 t232 t233 t234 t235 t236 t237 t238 t239 t240 t241 t242 t243 t244 t245 t246 t247 t248 t249 t250 t251 t252 t253 t254 t255 t256 t257 t258 t259 t260 t261 t262 t263 t264 t265 t266 t267 t268 t269 t270 t271 t272 t273 t274 t275 t276 t277 t278 t279 t280 t281 t282 t283 t284 t285 t286 t287 t288 t289 t290 t291 t292 t293 t294 t295 t296 t297 t298 t299 t300 t301 t302 t303 t304 t305 t306 t307 t308 t309 t310 t311 t312 t313 t314 t315 t316 t317 t318 t319 t320 t321 t322 t323 t324 t325 t326 t327 t328 t329 t330 t331 t332 t333 t334 t335 t336 t337 t338 t339 t340 t341 t342 t343 t344 t345 t346 t347 t348 t349 t350 t351 t352 t353 t354 t355 t356 t357 t358 t359 t360 t361 t362 t363 t364 t365 t366 t367 t368 t369 t370 t371 t372 t373 t374 t375 t376 t377 t378 t379 t380 t381 t382 t383 t384 t385 t386 t387 t388 t389 t390 t391 t392 t393 t394 : Value) :
    Code.wp Try.prog (dropS 24 (Try.f16.body.getD .skip)) (bodyPost Try.prog Try.f16 P) ⟨#[.slice (some ⟨x.gs, x.os, none⟩) n cs, .slice (some ⟨x.ga, x.oa, none⟩) n ca, t2, .pointer (some ⟨pl, po, none⟩), t4, t5, t6, t7, .int .i64 n, t9, .pointer (some ⟨bx, 0, none⟩), .slice (some ⟨x.gm, 0, none⟩) n n, t12, .pointer (some ⟨x.lb, x.lo, none⟩), t14, t15, .int .i64 m, t17, t18, t19, t20, .int .i32 rk, t22, t23, .slice (some ⟨x.ga, so, none⟩) m cso, t25, t26, t27, t28, t29, t30, t31, t32, t33, t34, t35, t36, t37, t38, t39, t40, t41, t42, t43, t44, t45, t46, t47, t48, t49, t50, t51, t52, t53, t54, t55, t56, t57, t58, t59, t60, t61, t62, t63, t64, t65, t66, t67, t68, t69, t70, t71, t72, t73, t74, t75, t76, t77, t78, t79, t80, t81, t82, t83, t84, t85, t86, t87, t88, t89, t90, t91, t92, t93, t94, t95, t96, t97, t98, t99, t100, t101, t102, t103, t104, t105, t106, t107, t108, t109, t110, t111, t112, t113, t114, t115, t116, t117, t118, t119, t120, t121, t122, t123, t124, t125, t126, t127, t128, t129, t130, t131, t132, t133, t134, t135, t136, t137, t138, t139, t140, t141, t142, t143, t144, t145, t146, t147, t148, t149, t150, t151, t152, t153, t154, t155, t156, t157, t158, t159, t160, t161, t162, t163, t164, t165, t166, t167, t168, t169, t170, t171, t172, t173, t174, t175, t176, t177, t178, t179, t180, t181, t182, t183, t184, t185, t186, t187, t188, t189, t190, t191, t192, t193, t194, t195, t196, t197, t198, t199, t200, t201, t202, t203, t204, t205, t206, t207, t208, t209, t210, t211, t212, t213, t214, t215, t216, t217, t218, t219, t220, t221, t222, t223, t224, t225, t226, t227, t228, t229, t230, t231, t232, t233, t234, t235, t236, t237, t238, t239, t240, t241, t242, t243, t244, t245, t246, t247, t248, t249, t250, t251, t252, t253, t254, t255, t256, t257, t258, t259, t260, t261, t262, t263, t264, t265, t266, t267, t268, t269, t270, t271, t272, t273, t274, t275, t276, t277, t278, t279, t280, t281, t282, t283, t284, t285, t286, t287, t288, t289, t290, t291, t292, t293, t294, t295, t296, t297, t298, t299, t300, t301, t302, t303, t304, t305, t306, t307, t308, t309, t310, t311, t312, t313, t314, t315, t316, t317, t318, t319, t320, t321, t322, t323, t324, t325, t326, t327, t328, t329, t330, t331, t332, t333, t334, t335, t336, t337, t338, t339, t340, t341, t342, t343, t344, t345, t346, t347, t348, t349, t350, t351, t352, t353, t354, t355, t356, t357, t358, t359, t360, t361, t362, t363, t364, t365, t366, t367, t368, t369, t370, t371, t372, t373, t374, t375, t376, t377, t378, t379, t380, t381, t382, t383, t384, t385, t386, t387, t388, t389, t390, t391, t392, t393, t394], []⟩ w0 := by
  have HC := hide hc
  have hn2 := hc.hn2
  have hn := hc.hn
  have hk := hc.hk
  have hcs := hc.hcs
  have hcm := hc.hcm
  have hca := hc.hca
  have hcm2 := hc.hcm2
  have HN := hide hc.hnn
  have HO := hide hc.ho
  clear hc
  have HTM := hide ht
  have hr := ht.hr
  have hcso := ht.hcso
  have hcso2 := ht.hcso2
  have hm2 : 2 * m ≤ n := by have := Sais.P1_half (s := s); rw [ht.hmm, HN.out] at this; exact this
  have HM := hide ht.hmm
  have HSo := hide ht.hso
  clear ht
  have hrk1 : -1 ≤ rk ∧ rk + 1 ≤ (m : Int) := by
    rcases HRK.out with ⟨h1, h2⟩ | ⟨h1, h2⟩
    · omega
    · have := Sais.rk_le (s := s) (R := Sais.R1 s) (m - 1)
      omega
  obtain ⟨hrkl, hrkm⟩ := hrk1
  have hgsB : Hid (x.gs < B.heap.size) := HG.out.gs
  conv => arg 2; whnf
  by_cases hrec : rk + 1 < (m : Int)
  · obtain ⟨q, hq, hrq⟩ : ∃ q : Nat, rk = (q : Int) ∧ q = Sais.rkf s (Sais.R1 s) (m - 1) := by
      rcases HRK.out with ⟨h1, h2⟩ | ⟨h1, h2⟩
      · omega
      · exact ⟨_, h2, rfl⟩
    subst hq
    have hm0 : 2 ≤ m := by omega
    have hq1 : q + 1 < m := by omega
    obtain rfl : so = x.oa + r := HSo.out (by omega)
    have hl : (Sais.red s).length = m := by rw [Sais.red_len, HM.out]
    have hbound : ∀ i, i < (Sais.red s).length → Sais.c (Sais.red s) i < q + 1 := fun i hi => by
      rw [hl] at hi
      have := Sais.red_bound (s := s) (i := i) (by rw [HM.out]; exact hi)
      rw [HM.out] at this
      omega
    have HCALL := hide (IH.out (Sais.red s) (by rw [hl, HN.out]; omega) x.ga x.oa x.N x.ga (x.oa + r) cso ca (q + 1) bx 0 _ A0 la2 (lc' - 1) w0 (by rw [hl]; exact hm0) (by rw [hl]; omega) (by omega) (by omega) hbound (by rw [hl]; exact hcso) hcso2 (by rw [hl]; omega) hcm2 (rec_pre HG.out HC.out HTM.out (by omega) HW.out HA.out))
    have HL := hide hl
    rw [hl, show (((q + 1 : Nat)) : Int) = (q : Int) + 1 from rfl] at HCALL
    have g1 : decide ((q : Int) + 1 < (m : Int)) = true := by simp; omega
    clear hbound hl hrec hrq hrkl hrkm
    go_wp2_with fail
    refine (HCALL.out).mono ?_
    rintro e w7 ⟨rfl, O, f', hSA, hrow, hin, hout, hL⟩
    obtain ⟨la', d, lc2, hcell, hd1, hdm, hLVr⟩ := hL.cell
    obtain ⟨F2, hF2, hF2o, hF2e⟩ := rec_row HG.out HC.out HW.out hL
    have T7 := rec_touch HG.out hL
    have hplw0 : pl < w0.heap.size := Nat.lt_of_lt_of_le HG.out.p8 HW.out.tc.size
    have eb : w7.heap[pl]? = B.heap[pl]? := by
      rw [T7.block pl hplw0 (by rintro (e | e | e); exact HG.out.p1 e; exact HG.out.p7 e; exact HG.out.p6 e), HW.out.tc.block pl HG.out.p8 (by rintro (e | e); exact HG.out.p1 e; exact HG.out.p4 e)]
    have k1 : w7.cell? ⟨pl, po, none⟩ = some (.slice (some ⟨x.lb, l0, none⟩) 1 lc') := (World.cell?_of_block (w := B) (a := ⟨pl, po, none⟩) eb).trans HG.out.pc
    have k2 : w7.frozen? ⟨pl, po, none⟩ = false := (World.frozen?_of_block (w := B) (a := ⟨pl, po, none⟩) eb).trans HG.out.pf
    have hpl7 : pl < w7.heap.size := Nat.lt_of_lt_of_le hplw0 T7.size
    have hlc1 : (1 : Int) ≤ (lc' : Int) := by have := HG.out.lc1; omega
    rw [HL.out] at hin hdm hL hout
    have HSA := hide hSA
    have HRow := hide hrow
    have HIn := hide hin
    have HOut := hide hout
    have HLq := hide hL
    have HV := hide hLVr
    have HF2 := hide hF2
    have HF2o := hide hF2o
    have HF2e := hide hF2e
    clear hSA hrow hin hout hL hLVr hF2 hF2o hF2e T7 eb hplw0 HCALL
    go_wp2_with fail
    go_region_law (refine step_join rfl (.tmp 294) (.tmp 295) rfl x.lb l0 lc' NL F2 HF2.out HF2o.out HG.out.nl HG.out.lc1 HG.out.lcm la' d lc2 HV.out hd1 (by omega) rfl rfl ?_; intro lb' l' c' F3 w8 HJ; have z0 : w8.heap[pl]? = w7.heap[pl]? := HJ.out.2.2.2.2.1.block pl hpl7 HG.out.p6; have z1 := (World.cell?_of_block (w := w7) (a := ⟨pl, po, none⟩) z0).trans k1; have z2 := (World.frozen?_of_block (w := w7) (a := ⟨pl, po, none⟩) z0).trans k2; clear z0)
    all_goals
      obtain ⟨NW, NG⟩ := rec_after HG.out HC.out HTM.out HW.out HLq.out HRow.out HIn.out HOut.out HF2.out HF2e.out hd1 hdm HJ.out.1 HJ.out.2.1 HJ.out.2.2.1 HJ.out.2.2.2.1 HJ.out.2.2.2.2.1 HJ.out.2.2.2.2.2
      obtain ⟨w9, hw9⟩ : ∃ w9, w8.setCell ⟨pl, po, none⟩ (.slice (some ⟨lb', l', none⟩) (1 + d) c') = w9 := ⟨_, rfl⟩
      rw [hw9] at NW NG ⊢
      have hgs9 : Hid (x.gs < w9.heap.size) := World.block_lt_of_cell? _ _ (NW.out.sy 0 (by rw [HN.out]; omega))
      have HA9 : Hid (∀ y, y < m → (fun y => if y < m then ((O.getD y 0 : Nat) : Int) else A0 y) y = (O.getD y 0 : Nat)) := fun y hy => by
        show (if y < m then ((O.getD y 0 : Nat) : Int) else A0 y) = _
        rw [if_pos hy]
      have HP9 : Hid (∀ SA T' w', Sais.IsSA s SA → IW s x f0 (fun i => .int .u8 (Sais.c s i : Nat)) w9 (fun y => (SA.getD y 0 : Int)) T' w' → P (.returned (.tuple #[])) w') := fun SA T' w' h1 h2 => hP.out SA T' w9 w' h1 h2 NG.out
      repeat (fail_if_success (refine (id : Hid (Code.wp _ (Code.seq (Code.region 69 _ _) _) _ _ _) → _) ?_)); (first | go_values | go_skip | go_guarded | go_step | go_upon | go_back | (simp only [Int.not_lt, Int.not_le] at *; go_simp))
      exact tail26_16 s x f0 cs ca n m r (x.oa + r) cso _ T0 w9 w9 O P HC.out HTM.out hgs9 NW HSA HA9 HP9 _ _ _ _ _ _ _ _ _ _ _ _ _ _ _ _ _ _ _ _ _ _ _ _ _ _ _ _ _ _ _ _ _ _ _ _ _ _ _ _ _ _ _ _ _ _ _ _ _ _ _ _ _ _ _ _ _ _ _ _ _ _ _ _ _ _ _ _ _ _ _ _ _ _ _ _ _ _ _ _ _ _ _ _ _ _ _ _ _ _ _ _ _ _ _ _ _ _ _ _ _ _ _ _ _ _ _ _ _ _ _ _ _ _ _ _ _ _ _ _ _ _ _ _ _ _ _ _ _ _ _ _ _ _ _ _ _ _ _ _ _ _ _ _ _ _ _ _ _ _ _ _ _ _ _ _ _ _ _ _ _ _ _ _ _ _ _ _ _ _ _ _ _ _ _ _ _ _ _ _ _ _ _ _ _ _ _ _ _ _ _ _ _ _ _ _ _ _ _ _ _ _ _ _ _ _ _ _ _ _ _ _ _ _ _ _ _ _ _ _ _ _ _ _ _ _ _ _ _ _ _ _ _ _ _ _ _ _ _ _ _ _ _ _ _ _ _ _ _ _ _ _ _ _ _ _ _ _ _ _ _ _ _ _ _ _ _ _ _ _ _ _ _ _ _ _ _ _ _ _ _ _ _ _ _ _ _ _ _ _ _ _ _ _ _ _ _ _ _ _ _ _ _ _ _ _ _ _ _ _ _ _ _ _ _ _ _ _ _ _ _ _ _ _ _ _ _ _ _ _ _ _ _ _ _ _ _ _ _ _ _ _ _ _ _ _ _ _ _ _ _ _ _ _ _ _ _ _ _ _ _ _ _ _ _ _ _ _ _ _ _ _ _ _ _ _ _ _ _ _ _ _ _ _ _ _ _
  · have g1 : decide (rk + 1 < (m : Int)) = false := by simp; omega
    have HF : Hid (0 < m → Sais.rkf s (Sais.R1 s) (m - 1) + 1 = m) := fun h => by
      rcases HRK.out with ⟨h1, h2⟩ | ⟨h1, h2⟩
      · omega
      · omega
    have HFs : Hid (0 < (Sais.P1 s).length → Sais.rkf s (Sais.R1 s) ((Sais.P1 s).length - 1) + 1 = (Sais.P1 s).length) := by unfold Hid; rw [HM.out]; exact HF.out
    clear hrec
    go_wp2_with fail
    go_loopw [300] (fun v wr => ∃ (i : Nat) (A : Nat → Int), i ≤ m ∧ v = .int .i64 (i : Nat) ∧ IW s x f0 (fun i => .int .u8 (Sais.c s i : Nat)) B A T0 wr ∧ (∀ t, t < m → A (r + t) = (Sais.c (Sais.red s) t : Nat)) ∧ (∀ t, t < i → A (Sais.c (Sais.red s) t) = (t : Nat))) (fun v _ => m - (intOf v).toNat)
    case atStart => exact ⟨0, A0, Nat.zero_le _, rfl, HW.out, HA.out, fun t ht => by omega⟩
    case round =>
      clear HW HA
      obtain ⟨i, A, hi, rfl, hW, hA1, hA2⟩ := hrel
      have HW := hide hW
      have HA1 := hide hA1
      have HA2 := hide hA2
      clear hW hA1 hA2
      by_cases hlt : i < m
      · obtain rfl : so = x.oa + r := HSo.out (by omega)
        have c1 := HW.out.cellO HO.out (o := x.oa + r + i) (r + i) (by rw [HN.out]; omega) (by omega)
        rw [HA1.out i hlt] at c1
        have hq : Sais.c (Sais.red s) i < m := by
          have h1 := Sais.red_bound (s := s) (i := i) (by rw [HM.out]; exact hlt)
          rw [HM.out] at h1
          have h2 := HF.out (by omega)
          omega
        have NA2 : Hid (∀ t, t < i + 1 → (fun y => if y = Sais.c (Sais.red s) i then (i : Int) else A y) (Sais.c (Sais.red s) t) = (t : Nat)) := fun t ht => by
          show (if Sais.c (Sais.red s) t = Sais.c (Sais.red s) i then (i : Int) else A (Sais.c (Sais.red s) t)) = _
          by_cases e : t = i
          · rw [if_pos (by rw [e]), e]
          · rw [if_neg (fun e2 => e (Sais.red_inj (by rw [HM.out]; omega) (HFs.out (by rw [HM.out]; omega)) (by rw [HM.out]; omega) (by rw [HM.out]; exact hlt) e2))]; exact HA2.out t (by omega)
        have NA1 : Hid (∀ t, t < m → (fun y => if y = Sais.c (Sais.red s) i then (i : Int) else A y) (r + t) = (Sais.c (Sais.red s) t : Nat)) := fun t ht => by
          show (if r + t = Sais.c (Sais.red s) i then (i : Int) else A (r + t)) = _
          rw [if_neg (by omega)]; exact HA1.out t ht
        have c2 := HW.out.cellA HO.out (i := Sais.c (Sais.red s) i) (by rw [HN.out]; omega)
        have c3 := HW.out.sa.frozen (x.oa + Sais.c (Sais.red s) i)
        have N1 := hide (HW.out.setO HO.out (o := x.oa + Sais.c (Sais.red s) i) (Sais.c (Sais.red s) i) (by rw [HN.out]; omega) rfl (i : Int))
        obtain ⟨q, hqe⟩ : ∃ q, Sais.c (Sais.red s) i = q := ⟨_, rfl⟩
        rw [hqe] at c1 c2 c3 hq NA1 NA2 N1
        have eb1 : (q : Int) < (m : Int) := by omega
        have eb2 : (i : Int) < (m : Int) := by omega
        clear HW HA1 HA2 hqe
        go_wp2_with fail
        go_roundw
        case rel => exact ⟨i + 1, _, by omega, by go_num, N1.out, NA1.out, NA2.out⟩
        case measure => simp [intOf]; omega
      · obtain rfl : m = i := by omega
        clear hlt
        obtain ⟨O, hSA, hAO⟩ := Sais.order_of HFs.out A (by rw [HM.out]; exact HA2.out)
        rw [HM.out] at hAO
        have HSA := hide hSA
        have HAO := hide hAO
        have HP9 : Hid (∀ SA T' w', Sais.IsSA s SA → IW s x f0 (fun i => .int .u8 (Sais.c s i : Nat)) B (fun y => (SA.getD y 0 : Int)) T' w' → P (.returned (.tuple #[])) w') := fun SA T' w' h1 h2 => hP.out SA T' B w' h1 h2 (HG.out.gq HO.out (by omega))
        clear hSA hAO
        repeat (fail_if_success (refine (id : Hid (Code.wp _ (Code.seq (Code.region 69 _ _) _) _ _ _) → _) ?_)); (first | go_values | go_skip | go_guarded | go_step | go_upon | go_back | (simp only [Int.not_lt, Int.not_le] at *; go_simp))
        exact tail26_16 s x f0 cs ca n m r so cso A T0 B wr O P HC.out HTM.out hgsB HW HSA HAO HP9 _ _ _ _ _ _ _ _ _ _ _ _ _ _ _ _ _ _ _ _ _ _ _ _ _ _ _ _ _ _ _ _ _ _ _ _ _ _ _ _ _ _ _ _ _ _ _ _ _ _ _ _ _ _ _ _ _ _ _ _ _ _ _ _ _ _ _ _ _ _ _ _ _ _ _ _ _ _ _ _ _ _ _ _ _ _ _ _ _ _ _ _ _ _ _ _ _ _ _ _ _ _ _ _ _ _ _ _ _ _ _ _ _ _ _ _ _ _ _ _ _ _ _ _ _ _ _ _ _ _ _ _ _ _ _ _ _ _ _ _ _ _ _ _ _ _ _ _ _ _ _ _ _ _ _ _ _ _ _ _ _ _ _ _ _ _ _ _ _ _ _ _ _ _ _ _ _ _ _ _ _ _ _ _ _ _ _ _ _ _ _ _ _ _ _ _ _ _ _ _ _ _ _ _ _ _ _ _ _ _ _ _ _ _ _ _ _ _ _ _ _ _ _ _ _ _ _ _ _ _ _ _ _ _ _ _ _ _ _ _ _ _ _ _ _ _ _ _ _ _ _ _ _ _ _ _ _ _ _ _ _ _ _ _ _ _ _ _ _ _ _ _ _ _ _ _ _ _ _ _ _ _ _ _ _ _ _ _ _ _ _ _ _ _ _ _ _ _ _ _ _ _ _ _ _ _ _ _ _ _ _ _ _ _ _ _ _ _ _ _ _ _ _ _ _ _ _ _ _ _ _ _ _ _ _ _ _ _ _ _ _ _ _ _ _ _ _ _ _ _ _ _ _ _ _ _ _ _ _ _ _ _ _ _ _ _ _ _ _ _ _ _ _ _ _ _ _ _ _ _ _ _ _ _ _ _ _

end Go.Proofs.Qxb6606288a

