/-
  sortSuffixes at byte, walked: the twin of the text for int32. Not trusted: the kernel checks it.
-/
import Derived.Test.Qxb6606288aByteK
namespace Go.Proofs.Qxb6606288a
open Go.RowKit Go.Deep
set_option linter.unusedVariables false
set_option linter.unusedSimpArgs false

set_option maxHeartbeats 40000000 in
set_option maxRecDepth 100000 in
theorem tail8_16 (s : List Nat) (ga oa N gs os cs ca k pl po lb l0 lc' NL bx gm n : Nat) (f F1 : Nat → Value) (Aold : Nat → Int) (la2 : Option Addr) (w w0 : World) (M0 : Nat → Bool) (P : Ending → World → Prop) (HN : Hid (s.length = n)) (hn2 : 2 ≤ n) (hn : n ≤ 100000) (hk : k ≤ 100000) (hk0 : 0 < k) (HK : Hid (∀ i, i < s.length → Sais.c s i < k))
    (hcs : n ≤ cs) (hcm : os + cs ≤ 2 ^ 62) (hca : n ≤ ca) (hcm2 : oa + ca ≤ 2 ^ 62) (HD : Hid (LD ga gs pl lb bx gm w.heap.size)) (HS : Hid (LS s ga N gs os pl po lb l0 lc' NL bx gm f (fun i => .int .u8 (Sais.c s i : Nat)) F1 la2 w M0 w0)) (HM0 : Hid (M0 (n - 1) = false))
    (hone : Hid (∀ y, y < NL → (F1 y).oneCell' = true)) (hnl : Hid (l0 + 3 * lc' = NL)) (hlc : Hid (1 ≤ lc')) (hlm : Hid (lc' ≤ maxLen)) (hlae : Hid (la2 = if lc' = 1 then some ⟨lb, l0, none⟩ else some ⟨lb, l0 + 3, none⟩)) (HF1 : Hid (F1 (l0 + 1) = zl)) (HF2 : Hid (F1 (l0 + 1 + 1) = zl))
    (hgs : Hid (gs < w.heap.size)) (hpl : Hid (pl < w.heap.size)) (hwin : Hid (∀ i, i < s.length → f (oa + i) = .int .i32 (Aold i))) (hfit : Hid (oa + s.length ≤ N)) (hdis : Hid (gs = ga → oa + s.length ≤ os))
    (IH : Hid (∀ s' : List Nat, s'.length < s.length → SortSpec s'))
    (hP : Hid (∀ (gc gt : Nat) (F' : Nat → Value), w.heap.size ≤ gt → (∀ y, y < l0 → F' y = F1 y) → (Cx.mk ga oa N gs os gm gt gc lb (l0 + 1) k).ok s.length → ∀ SA T' B' w', Sais.IsSA s SA → IW s ⟨ga, oa, N, gs, os, gm, gt, gc, lb, l0 + 1, k⟩ f (fun i => .int .u8 (Sais.c s i : Nat)) B' (fun y => (SA.getD y 0 : Int)) T' w' → GQ n ⟨ga, oa, N, gs, os, gm, gt, gc, lb, l0 + 1, k⟩ pl po l0 NL F' w B' → P (.returned (.tuple #[])) w'))
    (t4 t5 t6 t7 t12 t13 t14 t15 t16 t17 t18 t19 t20 t21 t22 t23 t24 t25 t26 t27 t28 t29 t30 t31 t32 t33 t34 t35 t36 t37 t38 t39 t40 t41 t42 t43 t44 t45 t46 t47 t48 t49 t50 t51 t52 t53 t54 t55 t56 t57 t58 t59 t60 t61 t62 t63 t64 t65 t66 t67 t68 t69 t70 t71 t72 t73 t74 t75 t76 t77 t78 t79 t80 t81 t82 t83 t84 t85 t86 t87 t88 t89 t90 t91 t92 t93 t94 t95 t96 t97 t98 t99 t100 t101 t102 t103 t104 t105 t106 t107 t108 t109 t110 t111 t112 t113 t114 t115 t116 t117 t118 t119 t120 t121 t122 t123 t124 t125 t126 t127 t128 t129 t130 t131 t132 t133 t134 t135 t136 t137 t138 t139 t140 t141 t142 t143 t144 t145 t146 t147 t148 t149 t150 t151 t152 t153 t154 t155 t156 t157 t158 t159 t160 t161 t162 t163 t164 t165 t166 t167 t168 t169 t170 t171 t172 t173 t174 t175 t176 t177 t178 t179 t180 t181 t182 t183 t184 t185 t186 t187 t188 t189 t190 t191 t192 t193 t194 t195 t196 t197 t198 t199 t200 t201 t202 t203 t204 t205 t206 t207 t208 t209 t210 t211 t212 t213 t214 t215 t216 t217 t218 t219 t220 t221 t222 t223 t224 t225 t226 t227 t228 t229 t230 t231 t232 t233 t234 t235 t236 t237 t238 t239 t240 t241 t242 t243 t244 t245 t246 t247 t248 t249 t250 t251 t252 t253 t254 t255 t256 t257 t258 t259 t260 t261 t262 t263 t264 t265 t266 t267 t268 t269 t270 t271 t272 t273 t274 t275 t276 t277 t278 t279 t280 t281 t282 t283 t284 t285 t286 t287 t288 t289 t290 t291 t292 t293 t294 t295 t296 t297 t298 t299 t300 t301 t302 t303 t304 t305 t306 t307 t308 t309 t310 t311 t312 t313 t314 t315 t316 t317 t318 t319 t320 t321 t322 t323 t324 t325 t326 t327 t328 t329 t330 t331 t332 t333 t334 t335 t336 t337 t338 t339 t340 t341 t342 t343 t344 t345 t346 t347 t348 t349 t350 t351 t352 t353 t354 t355 t356 t357 t358 t359 t360 t361 t362 t363 t364 t365 t366 t367 t368 t369 t370 t371 t372 t373 t374 t375 t376 t377 t378 t379 t380 t381 t382 t383 t384 t385 t386 t387 t388 t389 t390 t391 t392 t393 t394 : Value) :
    Code.wp Try.prog (dropS 8 (Try.f16.body.getD .skip)) (bodyPost Try.prog Try.f16 P) ⟨#[.slice (some ⟨gs, os, none⟩) n cs, .slice (some ⟨ga, oa, none⟩) n ca, .int .i64 k, .pointer (some ⟨pl, po, none⟩), t4, t5, t6, t7, .int .i64 n, .pointer (some ⟨lb, l0, none⟩), .pointer (some ⟨bx, 0, none⟩), .slice (some ⟨gm, 0, none⟩) n n, t12, t13, t14, t15, t16, t17, t18, t19, t20, t21, t22, t23, t24, t25, t26, t27, t28, t29, t30, t31, t32, t33, t34, t35, t36, t37, t38, t39, t40, t41, t42, t43, t44, t45, t46, t47, t48, t49, t50, t51, t52, t53, t54, t55, t56, t57, t58, t59, t60, t61, t62, t63, t64, t65, t66, t67, t68, t69, t70, t71, t72, t73, t74, t75, t76, t77, t78, t79, t80, t81, t82, t83, t84, t85, t86, t87, t88, t89, t90, t91, t92, t93, t94, t95, t96, t97, t98, t99, t100, t101, t102, t103, t104, t105, t106, t107, t108, t109, t110, t111, t112, t113, t114, t115, t116, t117, t118, t119, t120, t121, t122, t123, t124, t125, t126, t127, t128, t129, t130, t131, t132, t133, t134, t135, t136, t137, t138, t139, t140, t141, t142, t143, t144, t145, t146, t147, t148, t149, t150, t151, t152, t153, t154, t155, t156, t157, t158, t159, t160, t161, t162, t163, t164, t165, t166, t167, t168, t169, t170, t171, t172, t173, t174, t175, t176, t177, t178, t179, t180, t181, t182, t183, t184, t185, t186, t187, t188, t189, t190, t191, t192, t193, t194, t195, t196, t197, t198, t199, t200, t201, t202, t203, t204, t205, t206, t207, t208, t209, t210, t211, t212, t213, t214, t215, t216, t217, t218, t219, t220, t221, t222, t223, t224, t225, t226, t227, t228, t229, t230, t231, t232, t233, t234, t235, t236, t237, t238, t239, t240, t241, t242, t243, t244, t245, t246, t247, t248, t249, t250, t251, t252, t253, t254, t255, t256, t257, t258, t259, t260, t261, t262, t263, t264, t265, t266, t267, t268, t269, t270, t271, t272, t273, t274, t275, t276, t277, t278, t279, t280, t281, t282, t283, t284, t285, t286, t287, t288, t289, t290, t291, t292, t293, t294, t295, t296, t297, t298, t299, t300, t301, t302, t303, t304, t305, t306, t307, t308, t309, t310, t311, t312, t313, t314, t315, t316, t317, t318, t319, t320, t321, t322, t323, t324, t325, t326, t327, t328, t329, t330, t331, t332, t333, t334, t335, t336, t337, t338, t339, t340, t341, t342, t343, t344, t345, t346, t347, t348, t349, t350, t351, t352, t353, t354, t355, t356, t357, t358, t359, t360, t361, t362, t363, t364, t365, t366, t367, t368, t369, t370, t371, t372, t373, t374, t375, t376, t377, t378, t379, t380, t381, t382, t383, t384, t385, t386, t387, t388, t389, t390, t391, t392, t393, t394], []⟩ w0 := by
  conv => arg 2; whnf
  go_wp2_with fail
  go_loopw [12] (fun v wr => ∃ (j : Nat) (M : Nat → Bool), j + 1 ≤ n ∧ v = .int .i64 ((j : Int) - 1) ∧ LS s ga N gs os pl po lb l0 lc' NL bx gm f (fun i => .int .u8 (Sais.c s i : Nat)) F1 la2 w M wr ∧ (∀ i, j ≤ i → i < n → M i = Sais.sm s i)) (fun v _ => (intOf v + 1).toNat)
  case atStart =>
    refine ⟨n - 1, M0, by omega, by congr 1; omega, HS.out, fun i h1 h2 => ?_⟩
    obtain rfl : i = n - 1 := by omega
    rw [HM0.out, Sais.sm_last (by rw [HN.out]; omega)]
  case round =>
    clear HS HM0
    obtain ⟨j, M, hj, rfl, hW, hM⟩ := hrel
    have HW := hide hW
    have HM := hide hM
    clear hW hM
    by_cases h0 : j = 0
    · subst h0
      have HW2 : Hid (LS s ga N gs os pl po lb l0 lc' NL bx gm f (fun i => .int .u8 (Sais.c s i : Nat)) F1 la2 w (Sais.sm s) wr) := ⟨HW.out.pc, HW.out.pf, HW.out.bc, HW.out.lr, HW.out.ro, HW.out.sy, HW.out.sm.congr (fun i hi => by rw [HM.out i (Nat.zero_le _) (by rw [← HN.out]; exact hi)]), HW.out.oth, HW.out.tc⟩
      have hgs2 : gs < wr.heap.size := Nat.lt_of_lt_of_le hgs.out HW2.out.tc.size
      have hlb2 := HW2.out.lr.lt
      have C25 := hide (count18 s gs os cs lb (l0 + 1) NL k F1 wr hk hk0 (by rw [HN.out]; exact hn) HK.out (by rw [HN.out]; exact hcs) hcm HW2.out.sy hgs2 HW2.out.lr (by have := hnl.out; have := hlc.out; omega) HF1.out HF2.out HD.out.l1.symm)
      rw [HN.out] at C25
      have cl := HW2.out.lr.cell (i := l0) (by have := hnl.out; have := hlc.out; omega)
      clear HW HM hgs2
      go_wp2_with fail
      refine (C25.out).mono ?_
      rintro e w5 ⟨gc, gt, F', rfl, h1, h2, h3, h4, h5, h6, h7, h8, h9, h10⟩
      obtain ⟨BG, BW, ho⟩ := HW2.out.base (k := k) (cs := cs) (ca := ca) HD.out hone.out hnl.out hlc.out hlm.out hlae.out hgs.out hpl.out HN.out hwin.out hfit.out hdis.out h1 h2 h3 h4 h5 h6 h7 h8 h9 h10
      have hTC : Hid (TC s ⟨ga, oa, N, gs, os, gm, gt, gc, lb, l0 + 1, k⟩ cs ca n) := ⟨HN.out, ho, hn2, hn, hk, HK.out, hcs, hcm, hca, hcm2⟩
      have HP2 : Hid (∀ SA T' B' w', Sais.IsSA s SA → IW s ⟨ga, oa, N, gs, os, gm, gt, gc, lb, l0 + 1, k⟩ f (fun i => .int .u8 (Sais.c s i : Nat)) B' (fun y => (SA.getD y 0 : Int)) T' w' → GQ n ⟨ga, oa, N, gs, os, gm, gt, gc, lb, l0 + 1, k⟩ pl po l0 NL F' w B' → P (.returned (.tuple #[])) w') := hP.out gc gt F' (Nat.le_trans HW2.out.tc.size h8) (fun y hy => h4 y (by omega) (by omega)) ho
      clear h1 h2 h3 h4 h5 h6 h7 h8 h9 h10 ho C25 HW2 cl hP hlb2
      repeat (fail_if_success (refine (id : Hid (Code.wp _ (Code.seq (Code.seq (Code.region 17 _ _) _) _) _ _ _) → _) ?_)); (first | go_values | go_skip | go_guarded | go_step | go_upon | go_back | (simp only [Int.not_lt, Int.not_le] at *; go_simp))
      exact tail11_16 s ⟨ga, oa, N, gs, os, gm, gt, gc, lb, l0 + 1, k⟩ f cs ca n Aold _ pl po l0 lc' NL bx F' la2 w w5 w5 P hTC.out BG IH BW HP2 _ _ _ _ _ _ _ _ _ _ _ _ _ _ _ _ _ _ _ _ _ _ _ _ _ _ _ _ _ _ _ _ _ _ _ _ _ _ _ _ _ _ _ _ _ _ _ _ _ _ _ _ _ _ _ _ _ _ _ _ _ _ _ _ _ _ _ _ _ _ _ _ _ _ _ _ _ _ _ _ _ _ _ _ _ _ _ _ _ _ _ _ _ _ _ _ _ _ _ _ _ _ _ _ _ _ _ _ _ _ _ _ _ _ _ _ _ _ _ _ _ _ _ _ _ _ _ _ _ _ _ _ _ _ _ _ _ _ _ _ _ _ _ _ _ _ _ _ _ _ _ _ _ _ _ _ _ _ _ _ _ _ _ _ _ _ _ _ _ _ _ _ _ _ _ _ _ _ _ _ _ _ _ _ _ _ _ _ _ _ _ _ _ _ _ _ _ _ _ _ _ _ _ _ _ _ _ _ _ _ _ _ _ _ _ _ _ _ _ _ _ _ _ _ _ _ _ _ _ _ _ _ _ _ _ _ _ _ _ _ _ _ _ _ _ _ _ _ _ _ _ _ _ _ _ _ _ _ _ _ _ _ _ _ _ _ _ _ _ _ _ _ _ _ _ _ _ _ _ _ _ _ _ _ _ _ _ _ _ _ _ _ _ _ _ _ _ _ _ _ _ _ _ _ _ _ _ _ _ _ _ _ _ _ _ _ _ _ _ _ _ _ _ _ _ _ _ _ _ _ _ _ _ _ _ _ _ _ _ _ _ _ _ _ _ _ _ _ _ _ _ _ _ _ _ _ _ _ _ _ _ _ _ _ _ _ _ _ _ _ _ _ _ _ _ _ _ _ _ _ _ _ _ _ _ _ _ _
    · obtain ⟨p, rfl⟩ : ∃ p, j = p + 1 := ⟨j - 1, by omega⟩
      have ei : (((p + 1 : Nat) : Int) - 1) = (p : Int) := by omega
      rw [ei]
      clear ei h0
      have hstep := Sais.sm_step (s := s) (i := p) (by rw [HN.out]; omega)
      rw [← HM.out (p + 1) (Nat.le_refl _) (by omega)] at hstep
      have c1 := HW.out.sy p (by rw [HN.out]; omega)
      have c2 := HW.out.sy (p + 1) (by rw [HN.out]; omega)
      have c3 := HW.out.sm.cell (i := p + 1) (by rw [HN.out]; omega)
      have c4 := HW.out.sm.cell (i := p) (by rw [HN.out]; omega)
      have c5 := HW.out.sm.frozen p
      have N1 := hide (HW.out.setM HD.out p (Sais.sm s p)).drew
      have N2 : Hid (∀ i, p ≤ i → i < n → (fun y => if y = p then Sais.sm s p else M y) i = Sais.sm s i) := fun i h1 h2 => by
        show (if i = p then Sais.sm s p else M i) = _
        by_cases e : i = p
        · rw [if_pos e, e]
        · rw [if_neg e]; exact HM.out i (by omega) h2
      obtain ⟨R, hR⟩ : ∃ R, Sais.sm s p = R := ⟨_, rfl⟩
      obtain ⟨a, ha⟩ : ∃ a, Sais.c s p = a := ⟨_, rfl⟩
      obtain ⟨b, hb⟩ : ∃ b, Sais.c s (p + 1) = b := ⟨_, rfl⟩
      obtain ⟨u, hu⟩ : ∃ u, M (p + 1) = u := ⟨_, rfl⟩
      rw [hR, ha, hb, hu] at hstep
      have N1 : Hid (LS s ga N gs os pl po lb l0 lc' NL bx gm f (fun i => .int .u8 (Sais.c s i : Nat)) F1 la2 w (fun y => if y = p then R else M y) (wr.setCell ⟨gm, p, none⟩ (.bool R)).drew) := by rw [← hR]; exact N1
      have N2 : Hid (∀ i, p ≤ i → i < n → (fun y => if y = p then R else M y) i = Sais.sm s i) := by rw [← hR]; exact N2
      rw [ha] at c1
      rw [hb] at c2
      rw [hu] at c3
      have e1 : ((p : Int) + 1).toNat = p + 1 := by omega
      have hb1 : (0 : Int) ≤ (p : Int) + 1 := by omega
      have hb2 : (p : Int) + 1 < (n : Int) := by omega
      have hb3 : (p : Int) < (n : Int) := by omega
      have hw : IntKind.i64.wrap ((p : Int) + 1) = (p : Int) + 1 := by rw [IntKind.wrap_i64]; omega
      clear hR ha hb hu HM
      by_cases hlt : a < b
      · obtain rfl : R = true := by rw [hstep]; simp [hlt]
        have g1 : decide ((a : Int) < (b : Int)) = true := by simp; omega
        have g1b : decide (a < b) = true := by simp; omega
        have g1c : (a : Int) < (b : Int) := by omega
        clear HW hstep
        go_wp2_with fail
        go_big_region
        go_wp2_with fail
        go_roundw
        case rel => exact ⟨p, _, by omega, by go_num, N1.out, N2.out⟩
        case measure => simp [intOf]
      · by_cases heq : a = b
        · subst heq
          obtain rfl : R = u := by rw [hstep]; simp
          have g1 : decide ((a : Int) < (a : Int)) = false := by simp
          have g1b : decide (a < a) = false := by simp
          have g2 : ((a : Int) == (a : Int)) = true := by simp
          have g2b : (a == a) = true := by simp
          clear HW hstep hlt
          go_wp2_with fail
          go_big_region
          go_wp2_with fail
          go_roundw
          case rel => exact ⟨p, _, by omega, by go_num, N1.out, N2.out⟩
          case measure => simp [intOf]
        · obtain rfl : R = false := by rw [hstep]; simp [hlt, heq]
          have g1 : decide ((a : Int) < (b : Int)) = false := by simp; omega
          have g1b : decide (a < b) = false := by simp; omega
          have g1c : (b : Int) ≤ (a : Int) := by omega
          have g2 : ((a : Int) == (b : Int)) = false := by simp; omega
          have g2b : (a == b) = false := by simp; omega
          clear HW hstep
          go_wp2_with fail
          go_big_region
          go_wp2_with fail
          go_roundw
          case rel => exact ⟨p, _, by omega, by go_num, N1.out, N2.out⟩
          case measure => simp [intOf]

end Go.Proofs.Qxb6606288a

