import Derived.Test.Qxb6606288aWalkI
namespace Go.Proofs.Qxb6606288a
open Go.RowKit Go.Deep
set_option linter.unusedVariables false

set_option maxHeartbeats 40000000 in
set_option maxRecDepth 100000 in
theorem tail21_23 (s : List Nat) (x : Cx) (f0 : Nat → Value) (cs ca n m r car : Nat) (rk : Int) (A0 : Nat → Int) (T0 : Nat → Nat) (pl po l0 lc' NL bx : Nat) (F1 : Nat → Value) (la2 : Option Addr) (w : World) (B w0 : World) (P : Ending → World → Prop) (hc : TC s x cs ca n) (hmm : (Sais.P1 s).length = m) (hr : m + r = n) (hcar : r ≤ car) (hcar2 : x.oa + m + car ≤ 2 ^ 62) (HG : Hid (GB x pl po l0 lc' NL bx F1 la2 w B))
    (IH : Hid (∀ s' : List Nat, s'.length < s.length → SortSpec s'))
    (HW : Hid (IW s x f0 (fun i => .int .i32 (Sais.c s i : Nat)) B A0 T0 w0)) (HA : Hid (Sais.RKr s m A0)) (HRK : Hid ((m = 0 ∧ rk = -1) ∨ (0 < m ∧ rk = (Sais.rkf s (Sais.R1 s) (m - 1) : Nat))))
    (hP : Hid (∀ SA T' B' w', Sais.IsSA s SA → IW s x f0 (fun i => .int .i32 (Sais.c s i : Nat)) B' (fun y => (SA.getD y 0 : Int)) T' w' → GQ n x pl po l0 NL F1 w B' → P (.returned (.tuple #[])) w'))
    (t2 t4 t5 t6 t7 t9 t12 t14 t15 t17 t18 t20 t22 t23 t24 t25 t26 t27 t28 t29 t30 t31 t32 t33 t34 t35 t36 t37 t38 t39 t40 t41 t42 t43 t44 t45 t46 t47 t48 t49 t50 t51 t52 t53 t54 t55 t56 t57 t58 t59 t60 t61 t62 t63 t64 t65 t66 t67 t68 t69 t70 t71 t72 t73 t74 t75 t76 t77 t78 t79 t80 t81 t82 t83 t84 t85 t86 t87 t88 t89 t90 t91 t92 t93 t94 t95 t96 t97 t98 t99 t100 t101 t102 t103 t104 t105 t106 t107 t108 t109 t110 t111 t112 t113 t114 t115 t116 t117 t118 t119 t120 t121 t122 t123 t124 t125 t126 t127 t128 t129 t130 t131 t132 t133 t134 t135 t136 t137 t138 t139 t140 t141 t142 t143 t144 t145 t146 t147 t148 t149 t150 t151 t152 t153 t154 t155 t156 t157 t158 t159 t160 t161 t162 t163 t164 t165 t166 t167 t168 t169 t170 t171 t172 t173 t174 t175 t176 t177 t178 t179 t180 t181 t182 t183 t184 t185 t186 t187 t188 t189 t190 t191 t192 t193 t194 t195 t196 t197 t198 t199 t200 t201 t202 t203 t204 t205 t206 t207 t208 t209 t210 t211 t212 t213 t214 t215 t216 t217 t218 t219 t220 t221 t222 t223 t224 t225 t226 t227 t228 t229 t230 t231 t232 t233 t234 t235 t236 t237 t238 t239 t240 t241 t242 t243 t244 t245 t246 t247 t248 t249 t250 t251 t252 t253 t254 t255 t256 t257 t258 t259 t260 t261 t262 t263 t264 t265 t266 t267 t268 t269 t270 t271 t272 t273 t274 t275 t276 t277 t278 t279 t280 t281 t282 t283 t284 t285 t286 t287 t288 t289 t290 t291 t292 t293 t294 t295 t296 t297 t298 t299 t300 t301 t302 t303 t304 t305 t306 t307 t308 t309 t310 t311 t312 t313 t314 t315 t316 t317 t318 t319 t320 t321 t322 t323 t324 t325 t326 t327 t328 t329 t330 t331 t332 t333 t334 t335 t336 t337 t338 t339 t340 t341 t342 t343 t344 t345 t346 t347 t348 t349 t350 t351 t352 t353 t354 t355 t356 t357 t358 t359 t360 t361 t362 t363 t364 t365 t366 t367 t368 t369 t370 t371 t372 t373 t374 t375 t376 t377 t378 t379 t380 t381 t382 t383 t384 t385 t386 t387 t388 t389 t390 t391 t392 t393 t394 : Value) :
    Code.wp Try.prog (dropS 21 (Try.f23.body.getD .skip)) (bodyPost Try.prog Try.f23 P) ⟨#[.slice (some ⟨x.gs, x.os, none⟩) n cs, .slice (some ⟨x.ga, x.oa, none⟩) n ca, t2, .pointer (some ⟨pl, po, none⟩), t4, t5, t6, t7, .int .i64 n, t9, .pointer (some ⟨bx, 0, none⟩), .slice (some ⟨x.gm, 0, none⟩) n n, t12, .pointer (some ⟨x.lb, x.lo, none⟩), t14, t15, .int .i64 m, t17, t18, .slice (some ⟨x.ga, x.oa + m, none⟩) r car, t20, .int .i32 rk, t22, t23, t24, t25, t26, t27, t28, t29, t30, t31, t32, t33, t34, t35, t36, t37, t38, t39, t40, t41, t42, t43, t44, t45, t46, t47, t48, t49, t50, t51, t52, t53, t54, t55, t56, t57, t58, t59, t60, t61, t62, t63, t64, t65, t66, t67, t68, t69, t70, t71, t72, t73, t74, t75, t76, t77, t78, t79, t80, t81, t82, t83, t84, t85, t86, t87, t88, t89, t90, t91, t92, t93, t94, t95, t96, t97, t98, t99, t100, t101, t102, t103, t104, t105, t106, t107, t108, t109, t110, t111, t112, t113, t114, t115, t116, t117, t118, t119, t120, t121, t122, t123, t124, t125, t126, t127, t128, t129, t130, t131, t132, t133, t134, t135, t136, t137, t138, t139, t140, t141, t142, t143, t144, t145, t146, t147, t148, t149, t150, t151, t152, t153, t154, t155, t156, t157, t158, t159, t160, t161, t162, t163, t164, t165, t166, t167, t168, t169, t170, t171, t172, t173, t174, t175, t176, t177, t178, t179, t180, t181, t182, t183, t184, t185, t186, t187, t188, t189, t190, t191, t192, t193, t194, t195, t196, t197, t198, t199, t200, t201, t202, t203, t204, t205, t206, t207, t208, t209, t210, t211, t212, t213, t214, t215, t216, t217, t218, t219, t220, t221, t222, t223, t224, t225, t226, t227, t228, t229, t230, t231, t232, t233, t234, t235, t236, t237, t238, t239, t240, t241, t242, t243, t244, t245, t246, t247, t248, t249, t250, t251, t252, t253, t254, t255, t256, t257, t258, t259, t260, t261, t262, t263, t264, t265, t266, t267, t268, t269, t270, t271, t272, t273, t274, t275, t276, t277, t278, t279, t280, t281, t282, t283, t284, t285, t286, t287, t288, t289, t290, t291, t292, t293, t294, t295, t296, t297, t298, t299, t300, t301, t302, t303, t304, t305, t306, t307, t308, t309, t310, t311, t312, t313, t314, t315, t316, t317, t318, t319, t320, t321, t322, t323, t324, t325, t326, t327, t328, t329, t330, t331, t332, t333, t334, t335, t336, t337, t338, t339, t340, t341, t342, t343, t344, t345, t346, t347, t348, t349, t350, t351, t352, t353, t354, t355, t356, t357, t358, t359, t360, t361, t362, t363, t364, t365, t366, t367, t368, t369, t370, t371, t372, t373, t374, t375, t376, t377, t378, t379, t380, t381, t382, t383, t384, t385, t386, t387, t388, t389, t390, t391, t392, t393, t394], []⟩ w0 := by
  have HC := hide hc
  have hn2 := hc.hn2
  have hn := hc.hn
  have hk := hc.hk
  have hcs := hc.hcs
  have hcm := hc.hcm
  have hca := hc.hca
  have hcm2 := hc.hcm2
  have HN := hide hc.hnn
  have HO := hide hc.ho
  clear hc
  have HM := hide hmm
  have hm2 : 2 * m ≤ n := by have := Sais.P1_half (s := s); rw [hmm, HN.out] at this; exact this
  have hnr : s.length - (Sais.P1 s).length = r := by rw [hmm, HN.out]; omega
  have HNR := hide hnr
  have hPK := HA.out
  rw [← hmm] at hPK
  have hPK2 := hPK.pack
  rw [hnr] at hPK2
  have HPK := hide hPK2
  clear hmm hnr hPK hPK2 HA
  obtain ⟨so, hso1, hso2, hso3⟩ : ∃ so, (if ca = r then some (⟨x.ga, x.oa, none⟩ : Addr) else some ⟨x.ga, x.oa + r, none⟩) = some ⟨x.ga, so, none⟩ ∧ Hid (0 < m → so = x.oa + r) ∧ so + (ca - r) ≤ 2 ^ 62 := by
    by_cases e : ca = r
    · exact ⟨x.oa, by rw [if_pos e], fun h => by omega, by omega⟩
    · exact ⟨x.oa + r, by rw [if_neg e], fun _ => rfl, by omega⟩
  have e1 : ((n : Int) - (m : Int)) = (r : Int) := by omega
  have e2 : n - r = m := by omega
  conv => arg 2; whnf
  go_wp2_with fail
  go_loopw [25, 26] (fun v25 v26 wr => ∃ (i : Nat) (A : Nat → Int), i ≤ r ∧ v25 = .int .i64 (Sais.tl s (2 * i) : Nat) ∧ v26 = .int .i64 ((i : Int) - 1) ∧ IW s x f0 (fun i => .int .i32 (Sais.c s i : Nat)) B A T0 wr ∧ Sais.PKr s i A) (fun _ v _ => (intOf v + 1).toNat)
  case atStart => exact ⟨r, A0, Nat.le_refl _, by rw [Sais.tl_ge (by rw [HN.out]; omega), HM.out], rfl, HW.out, HPK.out⟩
  case round =>
    clear HW HPK hso1
    obtain ⟨i, A, hi, rfl, rfl, hW, hA⟩ := hrel
    have HW := hide hW
    have HA := hide hA
    clear hW hA
    by_cases h0 : i = 0
    · subst h0
      have HA2 : Hid (∀ t, t < m → A (r + t) = (Sais.c (Sais.red s) t : Nat)) := fun t ht => by
        have := HA.out.red t (by rw [Nat.mul_zero]; exact Nat.zero_le _) (by rw [HM.out]; exact ht)
        rw [HNR.out] at this; exact this
      repeat (fail_if_success (refine (id : Hid (Code.wp _ (Code.seq (Code.region 60 _ _) _) _ _ _) → _) ?_)); (first | go_values | go_skip | go_guarded | go_step | go_upon | go_back | (simp only [Int.not_lt, Int.not_le] at *; go_simp))
      exact tail24_23 s x f0 cs ca n m r so (ca - r) rk A T0 pl po l0 lc' NL bx F1 la2 w B wr P HC.out ⟨HM.out, hr, by omega, hso3, hso2.out⟩ HG IH HW HA2 HRK hP _ _ _ _ _ _ _ _ _ _ _ _ _ _ _ _ _ _ _ _ _ _ _ _ _ _ _ _ _ _ _ _ _ _ _ _ _ _ _ _ _ _ _ _ _ _ _ _ _ _ _ _ _ _ _ _ _ _ _ _ _ _ _ _ _ _ _ _ _ _ _ _ _ _ _ _ _ _ _ _ _ _ _ _ _ _ _ _ _ _ _ _ _ _ _ _ _ _ _ _ _ _ _ _ _ _ _ _ _ _ _ _ _ _ _ _ _ _ _ _ _ _ _ _ _ _ _ _ _ _ _ _ _ _ _ _ _ _ _ _ _ _ _ _ _ _ _ _ _ _ _ _ _ _ _ _ _ _ _ _ _ _ _ _ _ _ _ _ _ _ _ _ _ _ _ _ _ _ _ _ _ _ _ _ _ _ _ _ _ _ _ _ _ _ _ _ _ _ _ _ _ _ _ _ _ _ _ _ _ _ _ _ _ _ _ _ _ _ _ _ _ _ _ _ _ _ _ _ _ _ _ _ _ _ _ _ _ _ _ _ _ _ _ _ _ _ _ _ _ _ _ _ _ _ _ _ _ _ _ _ _ _ _ _ _ _ _ _ _ _ _ _ _ _ _ _ _ _ _ _ _ _ _ _ _ _ _ _ _ _ _ _ _ _ _ _ _ _ _ _ _ _ _ _ _ _ _ _ _ _ _ _ _ _ _ _ _ _ _ _ _ _ _ _ _ _ _ _ _ _ _ _ _ _ _ _ _ _ _ _ _ _ _ _ _ _ _ _ _ _ _ _ _ _ _ _ _ _ _ _ _ _ _ _ _ _ _ _ _ _ _ _ _ _ _ _ _ _ _ _ _ _ _ _ _
    · obtain ⟨i, rfl⟩ : ∃ i', i = i' + 1 := ⟨i - 1, by omega⟩
      have ei : (((i + 1 : Nat) : Int) - 1) = (i : Int) := by omega
      rw [ei]
      clear ei h0
      have c1 := HW.out.cellO HO.out (o := x.oa + m + i) (m + i) (by rw [HN.out]; omega) (by omega)
      have eb1 : (i : Int) < (r : Int) := by omega
      rcases HA.out.round (by rw [HNR.out]; omega) with ⟨v, q1, q2, q3, q4⟩ | ⟨q1, q2, q3⟩
      · rw [HM.out] at q1 q3
        rw [q1] at c1
        rw [q2]
        obtain ⟨j, hj⟩ : ∃ j, Sais.tl s (2 * i) = j := ⟨_, rfl⟩
        rw [hj, HNR.out] at q4
        rw [hj] at q3 ⊢
        have HJ := hide hj
        obtain rfl : so = x.oa + r := hso2.out (by omega)
        have c2 := HW.out.cellO HO.out (o := x.oa + r + j) (r + j) (by rw [HN.out]; omega) (by omega)
        have c3 := HW.out.sa.frozen (x.oa + r + j)
        have N1 := hide (HW.out.setO HO.out (o := x.oa + r + j) (r + j) (by rw [HN.out]; omega) (by omega) (v : Int))
        have N2 : Hid (Sais.PKr s i (fun y => if y = r + j then (v : Int) else A y)) := q4 _ (fun y _ => rfl)
        have ej : (((j + 1 : Nat) : Int) - 1) = (j : Int) := by omega
        have ej2 : ((j : Int) + 1 - 1) = (j : Int) := by omega
        have eb2 : (j : Int) < (m : Int) := by omega
        have g1 : decide ((0 : Int) ≤ (v : Int)) = true := by simp
        clear q1 q2 q4 HW HA hj
        go_wp2_with fail
        go_roundw
        case rel => exact ⟨i, _, by omega, by rw [HJ.out], by go_num, N1.out, N2.out⟩
        case measure => simp [intOf]
      · rw [HM.out] at q1
        rw [q1] at c1
        rw [q2]
        have N2 := hide q3
        clear q1 q2 q3 HA
        go_wp2_with fail
        go_roundw
        case rel => exact ⟨i, _, by omega, rfl, by go_num, HW.out, N2.out⟩
        case measure => simp [intOf]


set_option maxHeartbeats 40000000 in
set_option maxRecDepth 100000 in
theorem tail19_23 (s : List Nat) (x : Cx) (f0 : Nat → Value) (cs ca n m r car : Nat) (A0 : Nat → Int) (T0 : Nat → Nat) (pl po l0 lc' NL bx : Nat) (F1 : Nat → Value) (la2 : Option Addr) (w : World) (B w0 : World) (P : Ending → World → Prop) (hc : TC s x cs ca n) (hmm : (Sais.P1 s).length = m) (hr : m + r = n) (hcar : r ≤ car) (hcar2 : x.oa + m + car ≤ 2 ^ 62) (HG : Hid (GB x pl po l0 lc' NL bx F1 la2 w B))
    (IH : Hid (∀ s' : List Nat, s'.length < s.length → SortSpec s'))
    (HW : Hid (IW s x f0 (fun i => .int .i32 (Sais.c s i : Nat)) B A0 T0 w0)) (HA : Hid (Sais.RKr s 0 A0))
    (hP : Hid (∀ SA T' B' w', Sais.IsSA s SA → IW s x f0 (fun i => .int .i32 (Sais.c s i : Nat)) B' (fun y => (SA.getD y 0 : Int)) T' w' → GQ n x pl po l0 NL F1 w B' → P (.returned (.tuple #[])) w'))
    (t2 t4 t5 t6 t7 t9 t12 t14 t15 t17 t18 t20 t21 t22 t23 t24 t25 t26 t27 t28 t29 t30 t31 t32 t33 t34 t35 t36 t37 t38 t39 t40 t41 t42 t43 t44 t45 t46 t47 t48 t49 t50 t51 t52 t53 t54 t55 t56 t57 t58 t59 t60 t61 t62 t63 t64 t65 t66 t67 t68 t69 t70 t71 t72 t73 t74 t75 t76 t77 t78 t79 t80 t81 t82 t83 t84 t85 t86 t87 t88 t89 t90 t91 t92 t93 t94 t95 t96 t97 t98 t99 t100 t101 t102 t103 t104 t105 t106 t107 t108 t109 t110 t111 t112 t113 t114 t115 t116 t117 t118 t119 t120 t121 t122 t123 t124 t125 t126 t127 t128 t129 t130 t131 t132 t133 t134 t135 t136 t137 t138 t139 t140 t141 t142 t143 t144 t145 t146 t147 t148 t149 t150 t151 t152 t153 t154 t155 t156 t157 t158 t159 t160 t161 t162 t163 t164 t165 t166 t167 t168 t169 t170 t171 t172 t173 t174 t175 t176 t177 t178 t179 t180 t181 t182 t183 t184 t185 t186 t187 t188 t189 t190 t191 t192 t193 t194 t195 t196 t197 t198 t199 t200 t201 t202 t203 t204 t205 t206 t207 t208 t209 t210 t211 t212 t213 t214 t215 t216 t217 t218 t219 t220 t221 t222 t223 t224 t225 t226 t227 t228 t229 t230 t231 t232 t233 t234 t235 t236 t237 t238 t239 t240 t241 t242 t243 t244 t245 t246 t247 t248 t249 t250 t251 t252 t253 t254 t255 t256 t257 t258 t259 t260 t261 t262 t263 t264 t265 t266 t267 t268 t269 t270 t271 t272 t273 t274 t275 t276 t277 t278 t279 t280 t281 t282 t283 t284 t285 t286 t287 t288 t289 t290 t291 t292 t293 t294 t295 t296 t297 t298 t299 t300 t301 t302 t303 t304 t305 t306 t307 t308 t309 t310 t311 t312 t313 t314 t315 t316 t317 t318 t319 t320 t321 t322 t323 t324 t325 t326 t327 t328 t329 t330 t331 t332 t333 t334 t335 t336 t337 t338 t339 t340 t341 t342 t343 t344 t345 t346 t347 t348 t349 t350 t351 t352 t353 t354 t355 t356 t357 t358 t359 t360 t361 t362 t363 t364 t365 t366 t367 t368 t369 t370 t371 t372 t373 t374 t375 t376 t377 t378 t379 t380 t381 t382 t383 t384 t385 t386 t387 t388 t389 t390 t391 t392 t393 t394 : Value) :
    Code.wp Try.prog (dropS 19 (Try.f23.body.getD .skip)) (bodyPost Try.prog Try.f23 P) ⟨#[.slice (some ⟨x.gs, x.os, none⟩) n cs, .slice (some ⟨x.ga, x.oa, none⟩) n ca, t2, .pointer (some ⟨pl, po, none⟩), t4, t5, t6, t7, .int .i64 n, t9, .pointer (some ⟨bx, 0, none⟩), .slice (some ⟨x.gm, 0, none⟩) n n, t12, .pointer (some ⟨x.lb, x.lo, none⟩), t14, t15, .int .i64 m, t17, t18, .slice (some ⟨x.ga, x.oa + m, none⟩) r car, t20, t21, t22, t23, t24, t25, t26, t27, t28, t29, t30, t31, t32, t33, t34, t35, t36, t37, t38, t39, t40, t41, t42, t43, t44, t45, t46, t47, t48, t49, t50, t51, t52, t53, t54, t55, t56, t57, t58, t59, t60, t61, t62, t63, t64, t65, t66, t67, t68, t69, t70, t71, t72, t73, t74, t75, t76, t77, t78, t79, t80, t81, t82, t83, t84, t85, t86, t87, t88, t89, t90, t91, t92, t93, t94, t95, t96, t97, t98, t99, t100, t101, t102, t103, t104, t105, t106, t107, t108, t109, t110, t111, t112, t113, t114, t115, t116, t117, t118, t119, t120, t121, t122, t123, t124, t125, t126, t127, t128, t129, t130, t131, t132, t133, t134, t135, t136, t137, t138, t139, t140, t141, t142, t143, t144, t145, t146, t147, t148, t149, t150, t151, t152, t153, t154, t155, t156, t157, t158, t159, t160, t161, t162, t163, t164, t165, t166, t167, t168, t169, t170, t171, t172, t173, t174, t175, t176, t177, t178, t179, t180, t181, t182, t183, t184, t185, t186, t187, t188, t189, t190, t191, t192, t193, t194, t195, t196, t197, t198, t199, t200, t201, t202, t203, t204, t205, t206, t207, t208, t209, t210, t211, t212, t213, t214, t215, t216, t217, t218, t219, t220, t221, t222, t223, t224, t225, t226, t227, t228, t229, t230, t231, t232, t233, t234, t235, t236, t237, t238, t239, t240, t241, t242, t243, t244, t245, t246, t247, t248, t249, t250, t251, t252, t253, t254, t255, t256, t257, t258, t259, t260, t261, t262, t263, t264, t265, t266, t267, t268, t269, t270, t271, t272, t273, t274, t275, t276, t277, t278, t279, t280, t281, t282, t283, t284, t285, t286, t287, t288, t289, t290, t291, t292, t293, t294, t295, t296, t297, t298, t299, t300, t301, t302, t303, t304, t305, t306, t307, t308, t309, t310, t311, t312, t313, t314, t315, t316, t317, t318, t319, t320, t321, t322, t323, t324, t325, t326, t327, t328, t329, t330, t331, t332, t333, t334, t335, t336, t337, t338, t339, t340, t341, t342, t343, t344, t345, t346, t347, t348, t349, t350, t351, t352, t353, t354, t355, t356, t357, t358, t359, t360, t361, t362, t363, t364, t365, t366, t367, t368, t369, t370, t371, t372, t373, t374, t375, t376, t377, t378, t379, t380, t381, t382, t383, t384, t385, t386, t387, t388, t389, t390, t391, t392, t393, t394], []⟩ w0 := by
  have HC := hide hc
  have hn2 := hc.hn2
  have hn := hc.hn
  have hk := hc.hk
  have hcs := hc.hcs
  have hcm := hc.hcm
  have hca := hc.hca
  have hcm2 := hc.hcm2
  have HN := hide hc.hnn
  have HO := hide hc.ho
  clear hc
  have HM := hide hmm
  have hm2 : 2 * m ≤ n := by have := Sais.P1_half (s := s); rw [hmm, HN.out] at this; exact this
  have hnr : s.length - (Sais.P1 s).length = r := by rw [hmm, HN.out]; omega
  have HNR := hide hnr
  clear hmm hnr
  conv => arg 2; whnf
  go_wp2_with fail
  go_loopw [21, 220] (fun v21 v220 wr => ∃ (i : Nat) (A : Nat → Int), i ≤ m ∧ v21 = .int .i32 (if i = 0 then -1 else (Sais.rkf s (Sais.R1 s) (i - 1) : Nat)) ∧ v220 = .int .i64 (i : Nat) ∧ IW s x f0 (fun i => .int .i32 (Sais.c s i : Nat)) B A T0 wr ∧ Sais.RKr s i A) (fun _ v _ => m - (intOf v).toNat)
  case atStart => exact ⟨0, A0, Nat.zero_le _, rfl, rfl, HW.out, HA.out⟩
  case round =>
    clear HW HA
    obtain ⟨i, A, hi, rfl, rfl, hW, hA⟩ := hrel
    have HW := hide hW
    have HA := hide hA
    clear hW hA
    by_cases hlt : i < m
    · have hp0 := Sais.R1_get (s := s) (i := i) (by rw [HM.out]; exact hlt)
      have c1 := HW.out.cellA HO.out (i := i) (by rw [HN.out]; omega)
      rw [HA.out.fr i (by rw [HM.out]; exact hlt)] at c1
      obtain ⟨p, hpe⟩ : ∃ p, (Sais.R1 s).getD i 0 = p := ⟨_, rfl⟩
      rw [hpe] at hp0 c1
      have hpn := Sais.lms_lt hp0
      rw [HN.out] at hpn
      have hqr := Sais.half_lt hp0
      rw [HNR.out] at hqr
      obtain ⟨q, hq⟩ : ∃ q, p / 2 = q := ⟨_, rfl⟩
      rw [hq] at hqr
      have hdiv : (p : Int).tdiv 2 = (q : Int) := by rw [Int.tdiv_eq_ediv_of_nonneg (by omega)]; omega
      have hqi : (q : Int) < (r : Int) := by omega
      have c2 := HW.out.cellO HO.out (o := x.oa + m + q) (m + q) (by rw [HN.out]; omega) (by omega)
      have c3 := HW.out.sa.frozen (x.oa + m + q)
      by_cases h0 : i = 0
      · subst h0
        have c1' : wr.cell? ⟨x.ga, x.oa, none⟩ = some (.int .i32 (p : Nat)) := by simpa using c1
        have N1 := hide (HW.out.setO HO.out (o := x.oa + m + q) (m + q) (by rw [HN.out]; omega) (by omega) (0 : Int))
        have N2 : Hid (Sais.RKr s (0 + 1) (fun y => if y = m + q then (0 : Int) else A y)) := HA.out.step (by rw [HM.out]; exact hlt) (fun y _ => by rw [HM.out, hpe, hq]; rfl)
        have HPE := hide hpe
        have HQE := hide hq
        clear HW HA hpe hq
        go_wp2_with fail
        go_roundw
        case rel => exact ⟨0 + 1, _, by omega, by rfl, by go_num, N1.out, N2.out⟩
        case measure => simp [intOf]; omega
      · obtain ⟨j, rfl⟩ : ∃ j, i = j + 1 := ⟨i - 1, by omega⟩
        have hp1 := Sais.R1_get (s := s) (i := j) (by rw [HM.out]; omega)
        have d1 := HW.out.cellA HO.out (i := j) (by rw [HN.out]; omega)
        rw [HA.out.fr j (by rw [HM.out]; omega)] at d1
        have hne : (Sais.R1 s).getD j 0 ≠ (Sais.R1 s).getD (j + 1) 0 := fun e => by have := Sais.R1_inj (by rw [HM.out]; omega) (by rw [HM.out]; omega) e; omega
        have hrs : Sais.rkf s (Sais.R1 s) (j + 1) = Sais.rkf s (Sais.R1 s) j + if Sais.W s ((Sais.R1 s).getD j 0) = Sais.W s ((Sais.R1 s).getD (j + 1) 0) then 0 else 1 := rfl
        have hrl := Sais.rk_le (s := s) (R := Sais.R1 s) j
        obtain ⟨p1, hp1e⟩ : ∃ p1, (Sais.R1 s).getD j 0 = p1 := ⟨_, rfl⟩
        rw [hp1e] at hp1 d1 hne hrs
        rw [hpe] at hne hrs
        have hpn1 := Sais.lms_lt hp1
        rw [HN.out] at hpn1
        have S27 := hide (same27 s x.gs x.os cs x.gm p1 p wr (by rw [HN.out]; omega) (by rw [HN.out]; omega) hne (by rw [HN.out]; exact hn) (by rw [HN.out]; exact hcs) hcm HW.out.sy HW.out.sm)
        rw [HN.out] at S27
        obtain ⟨k0, hk0⟩ : ∃ k0, Sais.rkf s (Sais.R1 s) j = k0 := ⟨_, rfl⟩
        rw [hk0] at hrs hrl
        have hv : (if j + 1 = 0 then (-1 : Int) else (Sais.rkf s (Sais.R1 s) (j + 1 - 1) : Nat)) = (k0 : Int) := by rw [if_neg (by omega), Nat.add_sub_cancel, hk0]
        rw [hv]
        have ei : (((j + 1 : Nat) : Int) - 1) = (j : Int) := by omega
        have ei2 : ((j : Int) + 1 - 1) = (j : Int) := by omega
        have g0 : ((((j + 1 : Nat) : Int)) == 0) = false := by simp; omega
        have g0' : (((j : Int) + 1) == 0) = false := by simp; omega
        by_cases hw : Sais.W s p1 = Sais.W s p
        · rw [if_pos hw] at hrs
          replace hrs := hrs.trans (Nat.add_zero k0)
          have hdec : decide (Sais.W s p1 = Sais.W s p) = true := decide_eq_true hw
          rw [hdec] at S27
          have N3 : Hid (∀ w', Still wr w' → IW s x f0 (fun i => .int .i32 (Sais.c s i : Nat)) B (fun y => if y = m + q then (k0 : Int) else A y) T0 (w'.setCell ⟨x.ga, x.oa + m + q, none⟩ (.int .i32 (k0 : Int)))) := fun w' h => (HW.out.still h).setO HO.out (o := x.oa + m + q) (m + q) (by rw [HN.out]; omega) (by omega) (k0 : Int)
          have N2 : Hid (Sais.RKr s (j + 1 + 1) (fun y => if y = m + q then (k0 : Int) else A y)) := HA.out.step (by rw [HM.out]; exact hlt) (fun y _ => by rw [HM.out, hpe, hq, hrs])
          have HRS := hide hrs
          clear hw hdec hrs hpe hq hp1e hk0 hv hne HA
          go_wp2_with fail
          refine (S27.out).mono ?_
          rintro e w5 ⟨rfl, hS⟩
          have c2' := (hS.cell ⟨x.ga, x.oa + m + q, none⟩).trans c2
          have c3' : w5.frozen? ⟨x.ga, x.oa + m + q, none⟩ = false := (World.frozen?_of_block (w := wr) (by rw [hS.heap])).trans c3
          have N4 := hide (N3.out w5 hS)
          clear hS N3
          go_wp2_with fail
          go_roundw
          case rel => exact ⟨j + 1 + 1, _, by omega, by rw [if_neg (by omega), Nat.add_sub_cancel, HRS.out], by go_num, N4.out, N2.out⟩
          case measure => simp [intOf]; omega
        · rw [if_neg hw] at hrs
          have hdec : decide (Sais.W s p1 = Sais.W s p) = false := decide_eq_false hw
          rw [hdec] at S27
          have N3 : Hid (∀ w', Still wr w' → IW s x f0 (fun i => .int .i32 (Sais.c s i : Nat)) B (fun y => if y = m + q then ((k0 : Int) + 1) else A y) T0 (w'.setCell ⟨x.ga, x.oa + m + q, none⟩ (.int .i32 ((k0 : Int) + 1)))) := fun w' h => (HW.out.still h).setO HO.out (o := x.oa + m + q) (m + q) (by rw [HN.out]; omega) (by omega) ((k0 : Int) + 1)
          have N2 : Hid (Sais.RKr s (j + 1 + 1) (fun y => if y = m + q then ((k0 : Int) + 1) else A y)) := HA.out.step (by rw [HM.out]; exact hlt) (fun y _ => by rw [HM.out, hpe, hq, hrs]; rfl)
          have HRS := hide hrs
          clear hw hdec hrs hpe hq hp1e hk0 hv hne HA
          go_wp2_with fail
          refine (S27.out).mono ?_
          rintro e w5 ⟨rfl, hS⟩
          have c2' := (hS.cell ⟨x.ga, x.oa + m + q, none⟩).trans c2
          have c3' : w5.frozen? ⟨x.ga, x.oa + m + q, none⟩ = false := (World.frozen?_of_block (w := wr) (by rw [hS.heap])).trans c3
          have N4 := hide (N3.out w5 hS)
          clear hS N3
          go_wp2_with fail
          go_roundw
          case rel => exact ⟨j + 1 + 1, _, by omega, by rw [if_neg (by omega), Nat.add_sub_cancel, HRS.out]; go_num, by go_num, N4.out, N2.out⟩
          case measure => simp [intOf]; omega
    · obtain rfl : m = i := by omega
      clear hlt
      obtain ⟨rk, hrk⟩ : ∃ rk : Int, (if m = 0 then (-1 : Int) else (Sais.rkf s (Sais.R1 s) (m - 1) : Nat)) = rk := ⟨_, rfl⟩
      have HRK : Hid ((m = 0 ∧ rk = -1) ∨ (0 < m ∧ rk = (Sais.rkf s (Sais.R1 s) (m - 1) : Nat))) := by
        by_cases e : m = 0
        · rw [if_pos e] at hrk; exact .inl ⟨e, hrk.symm⟩
        · rw [if_neg e] at hrk; exact .inr ⟨by omega, hrk.symm⟩
      rw [hrk]
      clear hrk
      repeat (fail_if_success (refine (id : Hid (Code.wp _ (Code.seq (Code.region 52 _ _) _) _ _ _) → _) ?_)); (first | go_values | go_skip | go_guarded | go_step | go_upon | go_back | (simp only [Int.not_lt, Int.not_le] at *; go_simp))
      exact tail21_23 s x f0 cs ca n m r car rk A T0 pl po l0 lc' NL bx F1 la2 w B wr P HC.out HM.out hr hcar hcar2 HG IH HW HA HRK hP _ _ _ _ _ _ _ _ _ _ _ _ _ _ _ _ _ _ _ _ _ _ _ _ _ _ _ _ _ _ _ _ _ _ _ _ _ _ _ _ _ _ _ _ _ _ _ _ _ _ _ _ _ _ _ _ _ _ _ _ _ _ _ _ _ _ _ _ _ _ _ _ _ _ _ _ _ _ _ _ _ _ _ _ _ _ _ _ _ _ _ _ _ _ _ _ _ _ _ _ _ _ _ _ _ _ _ _ _ _ _ _ _ _ _ _ _ _ _ _ _ _ _ _ _ _ _ _ _ _ _ _ _ _ _ _ _ _ _ _ _ _ _ _ _ _ _ _ _ _ _ _ _ _ _ _ _ _ _ _ _ _ _ _ _ _ _ _ _ _ _ _ _ _ _ _ _ _ _ _ _ _ _ _ _ _ _ _ _ _ _ _ _ _ _ _ _ _ _ _ _ _ _ _ _ _ _ _ _ _ _ _ _ _ _ _ _ _ _ _ _ _ _ _ _ _ _ _ _ _ _ _ _ _ _ _ _ _ _ _ _ _ _ _ _ _ _ _ _ _ _ _ _ _ _ _ _ _ _ _ _ _ _ _ _ _ _ _ _ _ _ _ _ _ _ _ _ _ _ _ _ _ _ _ _ _ _ _ _ _ _ _ _ _ _ _ _ _ _ _ _ _ _ _ _ _ _ _ _ _ _ _ _ _ _ _ _ _ _ _ _ _ _ _ _ _ _ _ _ _ _ _ _ _ _ _ _ _ _ _ _ _ _ _ _ _ _ _ _ _ _ _ _ _ _ _ _ _ _ _ _ _ _ _ _ _ _ _ _ _ _ _ _ _ _ _ _ _ _ _ _ _ _ _ _


set_option maxHeartbeats 40000000 in
set_option maxRecDepth 100000 in
theorem tail17_23 (s : List Nat) (x : Cx) (f0 : Nat → Value) (cs ca n m : Nat) (A0 : Nat → Int) (T0 : Nat → Nat) (pl po l0 lc' NL bx : Nat) (F1 : Nat → Value) (la2 : Option Addr) (w : World) (B w0 : World) (P : Ending → World → Prop) (hc : TC s x cs ca n) (hmm : (Sais.P1 s).length = m) (HG : Hid (GB x pl po l0 lc' NL bx F1 la2 w B))
    (IH : Hid (∀ s' : List Nat, s'.length < s.length → SortSpec s'))
    (HW : Hid (IW s x f0 (fun i => .int .i32 (Sais.c s i : Nat)) B A0 T0 w0)) (HA : Hid (∀ y, y < m → A0 y = ((Sais.R1 s).getD y 0 : Nat)))
    (hP : Hid (∀ SA T' B' w', Sais.IsSA s SA → IW s x f0 (fun i => .int .i32 (Sais.c s i : Nat)) B' (fun y => (SA.getD y 0 : Int)) T' w' → GQ n x pl po l0 NL F1 w B' → P (.returned (.tuple #[])) w'))
    (t2 t4 t5 t6 t7 t9 t12 t14 t15 t17 t18 t19 t20 t21 t22 t23 t24 t25 t26 t27 t28 t29 t30 t31 t32 t33 t34 t35 t36 t37 t38 t39 t40 t41 t42 t43 t44 t45 t46 t47 t48 t49 t50 t51 t52 t53 t54 t55 t56 t57 t58 t59 t60 t61 t62 t63 t64 t65 t66 t67 t68 t69 t70 t71 t72 t73 t74 t75 t76 t77 t78 t79 t80 t81 t82 t83 t84 t85 t86 t87 t88 t89 t90 t91 t92 t93 t94 t95 t96 t97 t98 t99 t100 t101 t102 t103 t104 t105 t106 t107 t108 t109 t110 t111 t112 t113 t114 t115 t116 t117 t118 t119 t120 t121 t122 t123 t124 t125 t126 t127 t128 t129 t130 t131 t132 t133 t134 t135 t136 t137 t138 t139 t140 t141 t142 t143 t144 t145 t146 t147 t148 t149 t150 t151 t152 t153 t154 t155 t156 t157 t158 t159 t160 t161 t162 t163 t164 t165 t166 t167 t168 t169 t170 t171 t172 t173 t174 t175 t176 t177 t178 t179 t180 t181 t182 t183 t184 t185 t186 t187 t188 t189 t190 t191 t192 t193 t194 t195 t196 t197 t198 t199 t200 t201 t202 t203 t204 t205 t206 t207 t208 t209 t210 t211 t212 t213 t214 t215 t216 t217 t218 t219 t220 t221 t222 t223 t224 t225 t226 t227 t228 t229 t230 t231 t232 t233 t234 t235 t236 t237 t238 t239 t240 t241 t242 t243 t244 t245 t246 t247 t248 t249 t250 t251 t252 t253 t254 t255 t256 t257 t258 t259 t260 t261 t262 t263 t264 t265 t266 t267 t268 t269 t270 t271 t272 t273 t274 t275 t276 t277 t278 t279 t280 t281 t282 t283 t284 t285 t286 t287 t288 t289 t290 t291 t292 t293 t294 t295 t296 t297 t298 t299 t300 t301 t302 t303 t304 t305 t306 t307 t308 t309 t310 t311 t312 t313 t314 t315 t316 t317 t318 t319 t320 t321 t322 t323 t324 t325 t326 t327 t328 t329 t330 t331 t332 t333 t334 t335 t336 t337 t338 t339 t340 t341 t342 t343 t344 t345 t346 t347 t348 t349 t350 t351 t352 t353 t354 t355 t356 t357 t358 t359 t360 t361 t362 t363 t364 t365 t366 t367 t368 t369 t370 t371 t372 t373 t374 t375 t376 t377 t378 t379 t380 t381 t382 t383 t384 t385 t386 t387 t388 t389 t390 t391 t392 t393 t394 : Value) :
    Code.wp Try.prog (dropS 17 (Try.f23.body.getD .skip)) (bodyPost Try.prog Try.f23 P) ⟨#[.slice (some ⟨x.gs, x.os, none⟩) n cs, .slice (some ⟨x.ga, x.oa, none⟩) n ca, t2, .pointer (some ⟨pl, po, none⟩), t4, t5, t6, t7, .int .i64 n, t9, .pointer (some ⟨bx, 0, none⟩), .slice (some ⟨x.gm, 0, none⟩) n n, t12, .pointer (some ⟨x.lb, x.lo, none⟩), t14, t15, .int .i64 m, t17, t18, t19, t20, t21, t22, t23, t24, t25, t26, t27, t28, t29, t30, t31, t32, t33, t34, t35, t36, t37, t38, t39, t40, t41, t42, t43, t44, t45, t46, t47, t48, t49, t50, t51, t52, t53, t54, t55, t56, t57, t58, t59, t60, t61, t62, t63, t64, t65, t66, t67, t68, t69, t70, t71, t72, t73, t74, t75, t76, t77, t78, t79, t80, t81, t82, t83, t84, t85, t86, t87, t88, t89, t90, t91, t92, t93, t94, t95, t96, t97, t98, t99, t100, t101, t102, t103, t104, t105, t106, t107, t108, t109, t110, t111, t112, t113, t114, t115, t116, t117, t118, t119, t120, t121, t122, t123, t124, t125, t126, t127, t128, t129, t130, t131, t132, t133, t134, t135, t136, t137, t138, t139, t140, t141, t142, t143, t144, t145, t146, t147, t148, t149, t150, t151, t152, t153, t154, t155, t156, t157, t158, t159, t160, t161, t162, t163, t164, t165, t166, t167, t168, t169, t170, t171, t172, t173, t174, t175, t176, t177, t178, t179, t180, t181, t182, t183, t184, t185, t186, t187, t188, t189, t190, t191, t192, t193, t194, t195, t196, t197, t198, t199, t200, t201, t202, t203, t204, t205, t206, t207, t208, t209, t210, t211, t212, t213, t214, t215, t216, t217, t218, t219, t220, t221, t222, t223, t224, t225, t226, t227, t228, t229, t230, t231, t232, t233, t234, t235, t236, t237, t238, t239, t240, t241, t242, t243, t244, t245, t246, t247, t248, t249, t250, t251, t252, t253, t254, t255, t256, t257, t258, t259, t260, t261, t262, t263, t264, t265, t266, t267, t268, t269, t270, t271, t272, t273, t274, t275, t276, t277, t278, t279, t280, t281, t282, t283, t284, t285, t286, t287, t288, t289, t290, t291, t292, t293, t294, t295, t296, t297, t298, t299, t300, t301, t302, t303, t304, t305, t306, t307, t308, t309, t310, t311, t312, t313, t314, t315, t316, t317, t318, t319, t320, t321, t322, t323, t324, t325, t326, t327, t328, t329, t330, t331, t332, t333, t334, t335, t336, t337, t338, t339, t340, t341, t342, t343, t344, t345, t346, t347, t348, t349, t350, t351, t352, t353, t354, t355, t356, t357, t358, t359, t360, t361, t362, t363, t364, t365, t366, t367, t368, t369, t370, t371, t372, t373, t374, t375, t376, t377, t378, t379, t380, t381, t382, t383, t384, t385, t386, t387, t388, t389, t390, t391, t392, t393, t394], []⟩ w0 := by
  have HC := hide hc
  have hn2 := hc.hn2
  have hn := hc.hn
  have hk := hc.hk
  have hcs := hc.hcs
  have hcm := hc.hcm
  have hca := hc.hca
  have hcm2 := hc.hcm2
  have HN := hide hc.hnn
  have HO := hide hc.ho
  clear hc
  have HM := hide hmm
  have hm2 : 2 * m ≤ n := by have := Sais.P1_half (s := s); rw [hmm, HN.out] at this; exact this
  clear hmm
  obtain ⟨r, hr⟩ : ∃ r, m + r = n := ⟨n - m, by omega⟩
  have e1 : n - m = r := by omega
  have e2 : ¬ ca = m := by omega
  have hr0 : r ≤ ca - m := by omega
  have hr1 : x.oa + m + (ca - m) ≤ 2 ^ 62 := by omega
  conv => arg 2; whnf
  go_wp2_with fail
  go_loopw [209] (fun v wr => ∃ (i : Nat) (A : Nat → Int), i ≤ r ∧ v = .int .i64 (i : Nat) ∧ IW s x f0 (fun i => .int .i32 (Sais.c s i : Nat)) B A T0 wr ∧ (∀ y, y < m → A y = ((Sais.R1 s).getD y 0 : Nat)) ∧ (∀ q, q < i → A (m + q) = -1)) (fun v _ => r - (intOf v).toNat)
  case atStart => exact ⟨0, A0, Nat.zero_le _, rfl, HW.out, HA.out, fun y h1 => by omega⟩
  case round =>
    clear HW HA
    obtain ⟨i, A, hi, rfl, hW, hA1, hA2⟩ := hrel
    have HW := hide hW
    have HA1 := hide hA1
    have HA2 := hide hA2
    clear hW hA1 hA2
    by_cases hlt : i < r
    · have c1 := HW.out.cellO HO.out (o := x.oa + m + i) (m + i) (by rw [HN.out]; omega) (by omega)
      have c2 := HW.out.sa.frozen (x.oa + m + i)
      have N1 := hide (HW.out.setO HO.out (o := x.oa + m + i) (m + i) (by rw [HN.out]; omega) (by omega) (-1))
      have NA1 : Hid (∀ y, y < m → (fun y => if y = m + i then -1 else A y) y = ((Sais.R1 s).getD y 0 : Nat)) := fun y hy => by
        show (if y = m + i then -1 else A y) = _
        rw [if_neg (by omega)]; exact HA1.out y hy
      have NA2 : Hid (∀ q, q < i + 1 → (fun y => if y = m + i then -1 else A y) (m + q) = -1) := fun y h2 => by
        show (if m + y = m + i then -1 else A (m + y)) = _
        by_cases e : y = i
        · rw [if_pos (by omega)]
        · rw [if_neg (by omega)]; exact HA2.out y (by omega)
      have eb : (i : Int) < (r : Int) := by omega
      clear HW HA1 HA2
      go_wp2_with fail
      go_roundw
      case rel => exact ⟨i + 1, _, by omega, by go_num, N1.out, NA1.out, NA2.out⟩
      case measure => simp [intOf]; omega
    · obtain rfl : r = i := by omega
      clear hlt
      have HR : Hid (Sais.RKr s 0 A) := ⟨fun y hy => HA1.out y (by rw [← HM.out]; exact hy), fun j hj => by omega, fun q hq _ => by rw [HM.out]; exact HA2.out q (by rw [HM.out, HN.out] at hq; omega)⟩
      repeat (fail_if_success (refine (id : Hid (Code.wp _ (Code.seq (Code.region 44 _ _) _) _ _ _) → _) ?_)); (first | go_values | go_skip | go_guarded | go_step | go_upon | go_back | (simp only [Int.not_lt, Int.not_le] at *; go_simp))
      exact tail19_23 s x f0 cs ca n m r (ca - m) A T0 pl po l0 lc' NL bx F1 la2 w B wr P HC.out HM.out hr hr0 hr1 HG IH HW HR hP _ _ _ _ _ _ _ _ _ _ _ _ _ _ _ _ _ _ _ _ _ _ _ _ _ _ _ _ _ _ _ _ _ _ _ _ _ _ _ _ _ _ _ _ _ _ _ _ _ _ _ _ _ _ _ _ _ _ _ _ _ _ _ _ _ _ _ _ _ _ _ _ _ _ _ _ _ _ _ _ _ _ _ _ _ _ _ _ _ _ _ _ _ _ _ _ _ _ _ _ _ _ _ _ _ _ _ _ _ _ _ _ _ _ _ _ _ _ _ _ _ _ _ _ _ _ _ _ _ _ _ _ _ _ _ _ _ _ _ _ _ _ _ _ _ _ _ _ _ _ _ _ _ _ _ _ _ _ _ _ _ _ _ _ _ _ _ _ _ _ _ _ _ _ _ _ _ _ _ _ _ _ _ _ _ _ _ _ _ _ _ _ _ _ _ _ _ _ _ _ _ _ _ _ _ _ _ _ _ _ _ _ _ _ _ _ _ _ _ _ _ _ _ _ _ _ _ _ _ _ _ _ _ _ _ _ _ _ _ _ _ _ _ _ _ _ _ _ _ _ _ _ _ _ _ _ _ _ _ _ _ _ _ _ _ _ _ _ _ _ _ _ _ _ _ _ _ _ _ _ _ _ _ _ _ _ _ _ _ _ _ _ _ _ _ _ _ _ _ _ _ _ _ _ _ _ _ _ _ _ _ _ _ _ _ _ _ _ _ _ _ _ _ _ _ _ _ _ _ _ _ _ _ _ _ _ _ _ _ _ _ _ _ _ _ _ _ _ _ _ _ _ _ _ _ _ _ _ _ _ _ _ _ _ _ _ _ _ _ _ _ _ _ _ _ _ _ _ _ _ _ _ _ _ _ _

end Go.Proofs.Qxb6606288a

