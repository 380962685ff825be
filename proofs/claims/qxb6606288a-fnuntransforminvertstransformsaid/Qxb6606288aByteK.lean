/-
  sortSuffixes at byte, walked: the twin of the text for int32. Not trusted: the kernel checks it.
-/
import Derived.Test.Qxb6606288aByteJ
namespace Go.Proofs.Qxb6606288a
open Go.RowKit Go.Deep
set_option linter.unusedVariables false

set_option maxHeartbeats 40000000 in
set_option maxRecDepth 100000 in
theorem tail14_16 (s : List Nat) (x : Cx) (f0 : Nat → Value) (cs ca n : Nat) (A0 : Nat → Int) (T0 : Nat → Nat) (pl po l0 lc' NL bx : Nat) (F1 : Nat → Value) (la2 : Option Addr) (w : World) (B w0 : World) (P : Ending → World → Prop) (hc : TC s x cs ca n) (HG : Hid (GB x pl po l0 lc' NL bx F1 la2 w B))
    (IH : Hid (∀ s' : List Nat, s'.length < s.length → SortSpec s'))
    (HW : Hid (IW s x f0 (fun i => .int .u8 (Sais.c s i : Nat)) B A0 T0 w0)) (HL : Hid (Sais.Laid s (Sais.eP s (Sais.P1 s)) A0))
    (hP : Hid (∀ SA T' B' w', Sais.IsSA s SA → IW s x f0 (fun i => .int .u8 (Sais.c s i : Nat)) B' (fun y => (SA.getD y 0 : Int)) T' w' → GQ n x pl po l0 NL F1 w B' → P (.returned (.tuple #[])) w'))
    (t2 t4 t5 t6 t7 t9 t12 t14 t15 t16 t17 t18 t19 t20 t21 t22 t23 t24 t25 t26 t27 t28 t29 t30 t31 t32 t33 t34 t35 t36 t37 t38 t39 t40 t41 t42 t43 t44 t45 t46 t47 t48 t49 t50 t51 t52 t53 t54 t55 t56 t57 t58 t59 t60 t61 t62 t63 t64 t65 t66 t67 t68 t69 t70 t71 t72 t73 t74 t75 t76 t77 t78 t79 t80 t81 t82 t83 t84 t85 t86 t87 t88 t89 t90 t91 t92 t93 t94 t95 t96 t97 t98 t99 t100 t101 t102 t103 t104 t105 t106 t107 t108 t109 t110 t111 t112 t113 t114 t115 t116 t117 t118 t119 t120 t121 t122 t123 t124 t125 t126 t127 t128 t129 t130 t131 t132 t133 t134 t135 t136 t137 t138 t139 t140 t141 t142 t143 t144 t145 t146 t147 t148 t149 t150 t151 t152 t153 t154 t155 t156 t157 t158 t159 t160 t161 t162 t163 t164 t165 t166 t167 t168 t169 t170 t171 t172 t173 t174 t175 t176 t177 t178 t179 t180 t181 t182 t183 t184 t185 t186 t187 t188 t189 t190 t191 t192 t193 t194 t195 t196 t197 t198 t199 t200 t201 t202 t203 t204 t205 t206 t207 t208 t209 t210 t211 t212 t213 t214 t215 t216 t217 t218 t219 t220 t221 t222 t223 t224 t225 t226 t227 t228 t229 t230 t231 t232 t233 t234 t235 t236 t237 t238 t239 t240 t241 t242 t243 t244 t245 t246 t247 t248 t249 t250 t251 t252 t253 t254 t255 t256 t257 t258 t259 t260 t261 t262 t263 t264 t265 t266 t267 t268 t269 t270 t271 t272 t273 t274 t275 t276 t277 t278 t279 t280 t281 t282 t283 t284 t285 t286 t287 t288 t289 t290 t291 t292 t293 t294 t295 t296 t297 t298 t299 t300 t301 t302 t303 t304 t305 t306 t307 t308 t309 t310 t311 t312 t313 t314 t315 t316 t317 t318 t319 t320 t321 t322 t323 t324 t325 t326 t327 t328 t329 t330 t331 t332 t333 t334 t335 t336 t337 t338 t339 t340 t341 t342 t343 t344 t345 t346 t347 t348 t349 t350 t351 t352 t353 t354 t355 t356 t357 t358 t359 t360 t361 t362 t363 t364 t365 t366 t367 t368 t369 t370 t371 t372 t373 t374 t375 t376 t377 t378 t379 t380 t381 t382 t383 t384 t385 t386 t387 t388 t389 t390 t391 t392 t393 t394 : Value) :
    Code.wp Try.prog (dropS 14 (Try.f16.body.getD .skip)) (bodyPost Try.prog Try.f16 P) ⟨#[.slice (some ⟨x.gs, x.os, none⟩) n cs, .slice (some ⟨x.ga, x.oa, none⟩) n ca, t2, .pointer (some ⟨pl, po, none⟩), t4, t5, t6, t7, .int .i64 n, t9, .pointer (some ⟨bx, 0, none⟩), .slice (some ⟨x.gm, 0, none⟩) n n, t12, .pointer (some ⟨x.lb, x.lo, none⟩), t14, t15, t16, t17, t18, t19, t20, t21, t22, t23, t24, t25, t26, t27, t28, t29, t30, t31, t32, t33, t34, t35, t36, t37, t38, t39, t40, t41, t42, t43, t44, t45, t46, t47, t48, t49, t50, t51, t52, t53, t54, t55, t56, t57, t58, t59, t60, t61, t62, t63, t64, t65, t66, t67, t68, t69, t70, t71, t72, t73, t74, t75, t76, t77, t78, t79, t80, t81, t82, t83, t84, t85, t86, t87, t88, t89, t90, t91, t92, t93, t94, t95, t96, t97, t98, t99, t100, t101, t102, t103, t104, t105, t106, t107, t108, t109, t110, t111, t112, t113, t114, t115, t116, t117, t118, t119, t120, t121, t122, t123, t124, t125, t126, t127, t128, t129, t130, t131, t132, t133, t134, t135, t136, t137, t138, t139, t140, t141, t142, t143, t144, t145, t146, t147, t148, t149, t150, t151, t152, t153, t154, t155, t156, t157, t158, t159, t160, t161, t162, t163, t164, t165, t166, t167, t168, t169, t170, t171, t172, t173, t174, t175, t176, t177, t178, t179, t180, t181, t182, t183, t184, t185, t186, t187, t188, t189, t190, t191, t192, t193, t194, t195, t196, t197, t198, t199, t200, t201, t202, t203, t204, t205, t206, t207, t208, t209, t210, t211, t212, t213, t214, t215, t216, t217, t218, t219, t220, t221, t222, t223, t224, t225, t226, t227, t228, t229, t230, t231, t232, t233, t234, t235, t236, t237, t238, t239, t240, t241, t242, t243, t244, t245, t246, t247, t248, t249, t250, t251, t252, t253, t254, t255, t256, t257, t258, t259, t260, t261, t262, t263, t264, t265, t266, t267, t268, t269, t270, t271, t272, t273, t274, t275, t276, t277, t278, t279, t280, t281, t282, t283, t284, t285, t286, t287, t288, t289, t290, t291, t292, t293, t294, t295, t296, t297, t298, t299, t300, t301, t302, t303, t304, t305, t306, t307, t308, t309, t310, t311, t312, t313, t314, t315, t316, t317, t318, t319, t320, t321, t322, t323, t324, t325, t326, t327, t328, t329, t330, t331, t332, t333, t334, t335, t336, t337, t338, t339, t340, t341, t342, t343, t344, t345, t346, t347, t348, t349, t350, t351, t352, t353, t354, t355, t356, t357, t358, t359, t360, t361, t362, t363, t364, t365, t366, t367, t368, t369, t370, t371, t372, t373, t374, t375, t376, t377, t378, t379, t380, t381, t382, t383, t384, t385, t386, t387, t388, t389, t390, t391, t392, t393, t394], []⟩ w0 := by
  have HC := hide hc
  have hn2 := hc.hn2
  have hn := hc.hn
  have hk := hc.hk
  have hcs := hc.hcs
  have hcm := hc.hcm
  have hca := hc.hca
  have hcm2 := hc.hcm2
  have HN := hide hc.hnn
  have HO := hide hc.ho
  clear hc
  have hgs0 : x.gs < w0.heap.size := Nat.lt_of_lt_of_le HG.out.gs HW.out.tc.size
  have S26 := hide (ind20 s x f0 cs ca (Sais.eP s (Sais.P1 s)) A0 T0 w0 HO.out (by have := HN.out; omega) (by have := HN.out; omega) hk HC.out.hsk (by rw [HN.out]; exact hcs) hcm (by rw [HN.out]; exact hca) hcm2 hgs0 (Sais.P1_all.init) HL.out HW.out.self)
  rw [HN.out] at S26
  clear hgs0
  conv => arg 2; whnf
  go_wp2_with fail
  refine (S26.out).mono ?_
  rintro e w1 ⟨rfl, T1, hI⟩
  have HW1 : Hid (IW s x f0 (fun i => .int .u8 (Sais.c s i : Nat)) B (fun y => (Sais.ux s (Sais.eP s (Sais.P1 s)) y : Int)) T1 w1) := HW.out.rebase hI
  clear hI S26 HW HL
  go_wp2_with fail
  go_loopw [16, 189] (fun v16 v189 wr => ∃ (i : Nat) (A : Nat → Int), i ≤ n ∧ v16 = .int .i64 (Sais.fl s i : Nat) ∧ v189 = .int .i64 (i : Nat) ∧ IW s x f0 (fun i => .int .u8 (Sais.c s i : Nat)) B A T1 wr ∧ (∀ y, y < Sais.fl s i → A y = ((Sais.R1 s).getD y 0 : Nat)) ∧ (∀ y, i ≤ y → y < n → A y = (Sais.ux s (Sais.eP s (Sais.P1 s)) y : Nat))) (fun _ v _ => n - (intOf v).toNat)
  case atStart => exact ⟨0, _, Nat.zero_le _, rfl, rfl, HW1.out, fun y hy => absurd hy (by simp [Sais.fl]), fun y _ _ => rfl⟩
  case round =>
    clear HW1
    obtain ⟨i, A, hi, rfl, rfl, hW, hA1, hA2⟩ := hrel
    have HW := hide hW
    have HA1 := hide hA1
    have HA2 := hide hA2
    clear hW hA1 hA2
    have hfl := Sais.fl_le (s := s) i
    by_cases hlt : i < n
    · have c1 := HW.out.cellA HO.out (i := i) (by rw [HN.out]; omega)
      rw [HA2.out i (Nat.le_refl _) hlt] at c1
      have hpn := Sais.ux_lt (s := s) (e0 := (Sais.eP s (Sais.P1 s))) (x := i) (by rw [HN.out]; exact hlt)
      have hfs := Sais.fl_succ (s := s) (i := i) (by rw [HN.out]; exact hlt)
      have hra := Sais.R1_at (s := s) (i := i) (by rw [HN.out]; exact hlt)
      obtain ⟨p, hpe⟩ : ∃ p, Sais.ux s (Sais.eP s (Sais.P1 s)) i = p := ⟨_, rfl⟩
      rw [hpe] at c1 hpn hfs hra
      have L21 := hide (lms21 s x.gm p wr hpn (by rw [HN.out]; exact hn) HW.out.sm)
      rw [HN.out] at L21 hpn
      obtain ⟨l, hle⟩ : ∃ l, Sais.fl s i = l := ⟨_, rfl⟩
      rw [hle] at hfs hra hfl HA1 ⊢
      cases hl : Sais.lms s p with
      | true =>
        rw [hl] at L21 hfs
        rw [if_pos rfl] at hfs
        have hra2 := hra hl
        have hrg : (Sais.R1 s).getD l 0 = p := by rw [List.getD_eq_getElem?_getD, hra2]; rfl
        have c2 := HW.out.cellA HO.out (i := l) (by rw [HN.out]; omega)
        have c3 := HW.out.sa.frozen (x.oa + l)
        have N1 := hide (HW.out.setO HO.out (o := x.oa + l) l (by rw [HN.out]; omega) rfl (p : Int))
        have NA1 : Hid (∀ y, y < Sais.fl s (i + 1) → (fun y => if y = l then (p : Int) else A y) y = ((Sais.R1 s).getD y 0 : Nat)) := fun y hy => by
          show (if y = l then (p : Int) else A y) = _
          by_cases e : y = l
          · rw [if_pos e, e, hrg]
          · rw [if_neg e]; exact HA1.out y (by omega)
        have NA2 : Hid (∀ y, i + 1 ≤ y → y < n → (fun y => if y = l then (p : Int) else A y) y = (Sais.ux s (Sais.eP s (Sais.P1 s)) y : Nat)) := fun y h1 h2 => by
          show (if y = l then (p : Int) else A y) = _
          rw [if_neg (by omega)]; exact HA2.out y (by omega) h2
        have HFS := hide hfs
        have eb1 : (l : Int) < (n : Int) := by omega
        clear hra hra2 hrg hfs hl hle hpe HW HA1 HA2
        go_wp2_with fail
        refine (L21.out).mono ?_
        rintro e w5 ⟨rfl, rfl⟩
        go_wp2_with fail
        go_roundw
        case rel => exact ⟨i + 1, _, by omega, by rw [HFS.out]; go_num, by go_num, N1.out, NA1.out, NA2.out⟩
        case measure => simp [intOf]; omega
      | false =>
        rw [hl] at L21 hfs
        rw [if_neg (by simp)] at hfs
        replace hfs := hfs.trans (Nat.add_zero l)
        have HFS := hide hfs
        have NA2 : Hid (∀ y, i + 1 ≤ y → y < n → A y = (Sais.ux s (Sais.eP s (Sais.P1 s)) y : Nat)) := fun y h1 h2 => HA2.out y (by omega) h2
        have NA1 : Hid (∀ y, y < Sais.fl s (i + 1) → A y = ((Sais.R1 s).getD y 0 : Nat)) := fun y hy => HA1.out y (by rw [← hfs]; exact hy)
        clear hra hfs hl hle hpe HA1 HA2
        go_wp2_with fail
        refine (L21.out).mono ?_
        rintro e w5 ⟨rfl, rfl⟩
        go_wp2_with fail
        go_roundw
        case rel => exact ⟨i + 1, _, by omega, by rw [HFS.out], by go_num, HW.out, NA1.out, NA2.out⟩
        case measure => simp [intOf]; omega
    · obtain rfl : n = i := by omega
      clear hlt
      have hfe : Sais.fl s n = (Sais.P1 s).length := by rw [← HN.out]; exact Sais.fl_end
      obtain ⟨m, hm⟩ : ∃ m, (Sais.P1 s).length = m := ⟨_, rfl⟩
      rw [hm] at hfe
      rw [hfe] at HA1 hfl ⊢
      have HM := hide hm
      clear hfe hm
      repeat (fail_if_success (refine (id : Hid (Code.wp _ (Code.seq (Code.region 38 _ _) _) _ _ _) → _) ?_)); (first | go_values | go_skip | go_guarded | go_step | go_upon | go_back | (simp only [Int.not_lt, Int.not_le] at *; go_simp))
      exact tail17_16 s x f0 cs ca n m A T1 pl po l0 lc' NL bx F1 la2 w B wr P HC.out HM.out HG IH HW HA1 hP _ _ _ _ _ _ _ _ _ _ _ _ _ _ _ _ _ _ _ _ _ _ _ _ _ _ _ _ _ _ _ _ _ _ _ _ _ _ _ _ _ _ _ _ _ _ _ _ _ _ _ _ _ _ _ _ _ _ _ _ _ _ _ _ _ _ _ _ _ _ _ _ _ _ _ _ _ _ _ _ _ _ _ _ _ _ _ _ _ _ _ _ _ _ _ _ _ _ _ _ _ _ _ _ _ _ _ _ _ _ _ _ _ _ _ _ _ _ _ _ _ _ _ _ _ _ _ _ _ _ _ _ _ _ _ _ _ _ _ _ _ _ _ _ _ _ _ _ _ _ _ _ _ _ _ _ _ _ _ _ _ _ _ _ _ _ _ _ _ _ _ _ _ _ _ _ _ _ _ _ _ _ _ _ _ _ _ _ _ _ _ _ _ _ _ _ _ _ _ _ _ _ _ _ _ _ _ _ _ _ _ _ _ _ _ _ _ _ _ _ _ _ _ _ _ _ _ _ _ _ _ _ _ _ _ _ _ _ _ _ _ _ _ _ _ _ _ _ _ _ _ _ _ _ _ _ _ _ _ _ _ _ _ _ _ _ _ _ _ _ _ _ _ _ _ _ _ _ _ _ _ _ _ _ _ _ _ _ _ _ _ _ _ _ _ _ _ _ _ _ _ _ _ _ _ _ _ _ _ _ _ _ _ _ _ _ _ _ _ _ _ _ _ _ _ _ _ _ _ _ _ _ _ _ _ _ _ _ _ _ _ _ _ _ _ _ _ _ _ _ _ _ _ _ _ _ _ _ _ _ _ _ _ _ _ _ _ _ _ _ _ _ _ _ _ _ _ _ _ _ _ _ _ _ _ _ _


set_option maxHeartbeats 40000000 in
set_option maxRecDepth 100000 in
theorem tail12_16 (s : List Nat) (x : Cx) (f0 : Nat → Value) (cs ca n : Nat) (A0 : Nat → Int) (T0 : Nat → Nat) (pl po l0 lc' NL bx : Nat) (F1 : Nat → Value) (la2 : Option Addr) (w : World) (B w0 : World) (P : Ending → World → Prop) (hc : TC s x cs ca n) (HG : Hid (GB x pl po l0 lc' NL bx F1 la2 w B))
    (IH : Hid (∀ s' : List Nat, s'.length < s.length → SortSpec s'))
    (HW : Hid (IW s x f0 (fun i => .int .u8 (Sais.c s i : Nat)) B A0 T0 w0)) (HA : Hid (∀ y, y < n → A0 y = -1))
    (hP : Hid (∀ SA T' B' w', Sais.IsSA s SA → IW s x f0 (fun i => .int .u8 (Sais.c s i : Nat)) B' (fun y => (SA.getD y 0 : Int)) T' w' → GQ n x pl po l0 NL F1 w B' → P (.returned (.tuple #[])) w'))
    (t2 t4 t5 t6 t7 t9 t12 t14 t15 t16 t17 t18 t19 t20 t21 t22 t23 t24 t25 t26 t27 t28 t29 t30 t31 t32 t33 t34 t35 t36 t37 t38 t39 t40 t41 t42 t43 t44 t45 t46 t47 t48 t49 t50 t51 t52 t53 t54 t55 t56 t57 t58 t59 t60 t61 t62 t63 t64 t65 t66 t67 t68 t69 t70 t71 t72 t73 t74 t75 t76 t77 t78 t79 t80 t81 t82 t83 t84 t85 t86 t87 t88 t89 t90 t91 t92 t93 t94 t95 t96 t97 t98 t99 t100 t101 t102 t103 t104 t105 t106 t107 t108 t109 t110 t111 t112 t113 t114 t115 t116 t117 t118 t119 t120 t121 t122 t123 t124 t125 t126 t127 t128 t129 t130 t131 t132 t133 t134 t135 t136 t137 t138 t139 t140 t141 t142 t143 t144 t145 t146 t147 t148 t149 t150 t151 t152 t153 t154 t155 t156 t157 t158 t159 t160 t161 t162 t163 t164 t165 t166 t167 t168 t169 t170 t171 t172 t173 t174 t175 t176 t177 t178 t179 t180 t181 t182 t183 t184 t185 t186 t187 t188 t189 t190 t191 t192 t193 t194 t195 t196 t197 t198 t199 t200 t201 t202 t203 t204 t205 t206 t207 t208 t209 t210 t211 t212 t213 t214 t215 t216 t217 t218 t219 t220 t221 t222 t223 t224 t225 t226 t227 t228 t229 t230 t231 t232 t233 t234 t235 t236 t237 t238 t239 t240 t241 t242 t243 t244 t245 t246 t247 t248 t249 t250 t251 t252 t253 t254 t255 t256 t257 t258 t259 t260 t261 t262 t263 t264 t265 t266 t267 t268 t269 t270 t271 t272 t273 t274 t275 t276 t277 t278 t279 t280 t281 t282 t283 t284 t285 t286 t287 t288 t289 t290 t291 t292 t293 t294 t295 t296 t297 t298 t299 t300 t301 t302 t303 t304 t305 t306 t307 t308 t309 t310 t311 t312 t313 t314 t315 t316 t317 t318 t319 t320 t321 t322 t323 t324 t325 t326 t327 t328 t329 t330 t331 t332 t333 t334 t335 t336 t337 t338 t339 t340 t341 t342 t343 t344 t345 t346 t347 t348 t349 t350 t351 t352 t353 t354 t355 t356 t357 t358 t359 t360 t361 t362 t363 t364 t365 t366 t367 t368 t369 t370 t371 t372 t373 t374 t375 t376 t377 t378 t379 t380 t381 t382 t383 t384 t385 t386 t387 t388 t389 t390 t391 t392 t393 t394 : Value) :
    Code.wp Try.prog (dropS 12 (Try.f16.body.getD .skip)) (bodyPost Try.prog Try.f16 P) ⟨#[.slice (some ⟨x.gs, x.os, none⟩) n cs, .slice (some ⟨x.ga, x.oa, none⟩) n ca, t2, .pointer (some ⟨pl, po, none⟩), t4, t5, t6, t7, .int .i64 n, t9, .pointer (some ⟨bx, 0, none⟩), .slice (some ⟨x.gm, 0, none⟩) n n, t12, .pointer (some ⟨x.lb, x.lo, none⟩), t14, t15, t16, t17, t18, t19, t20, t21, t22, t23, t24, t25, t26, t27, t28, t29, t30, t31, t32, t33, t34, t35, t36, t37, t38, t39, t40, t41, t42, t43, t44, t45, t46, t47, t48, t49, t50, t51, t52, t53, t54, t55, t56, t57, t58, t59, t60, t61, t62, t63, t64, t65, t66, t67, t68, t69, t70, t71, t72, t73, t74, t75, t76, t77, t78, t79, t80, t81, t82, t83, t84, t85, t86, t87, t88, t89, t90, t91, t92, t93, t94, t95, t96, t97, t98, t99, t100, t101, t102, t103, t104, t105, t106, t107, t108, t109, t110, t111, t112, t113, t114, t115, t116, t117, t118, t119, t120, t121, t122, t123, t124, t125, t126, t127, t128, t129, t130, t131, t132, t133, t134, t135, t136, t137, t138, t139, t140, t141, t142, t143, t144, t145, t146, t147, t148, t149, t150, t151, t152, t153, t154, t155, t156, t157, t158, t159, t160, t161, t162, t163, t164, t165, t166, t167, t168, t169, t170, t171, t172, t173, t174, t175, t176, t177, t178, t179, t180, t181, t182, t183, t184, t185, t186, t187, t188, t189, t190, t191, t192, t193, t194, t195, t196, t197, t198, t199, t200, t201, t202, t203, t204, t205, t206, t207, t208, t209, t210, t211, t212, t213, t214, t215, t216, t217, t218, t219, t220, t221, t222, t223, t224, t225, t226, t227, t228, t229, t230, t231, t232, t233, t234, t235, t236, t237, t238, t239, t240, t241, t242, t243, t244, t245, t246, t247, t248, t249, t250, t251, t252, t253, t254, t255, t256, t257, t258, t259, t260, t261, t262, t263, t264, t265, t266, t267, t268, t269, t270, t271, t272, t273, t274, t275, t276, t277, t278, t279, t280, t281, t282, t283, t284, t285, t286, t287, t288, t289, t290, t291, t292, t293, t294, t295, t296, t297, t298, t299, t300, t301, t302, t303, t304, t305, t306, t307, t308, t309, t310, t311, t312, t313, t314, t315, t316, t317, t318, t319, t320, t321, t322, t323, t324, t325, t326, t327, t328, t329, t330, t331, t332, t333, t334, t335, t336, t337, t338, t339, t340, t341, t342, t343, t344, t345, t346, t347, t348, t349, t350, t351, t352, t353, t354, t355, t356, t357, t358, t359, t360, t361, t362, t363, t364, t365, t366, t367, t368, t369, t370, t371, t372, t373, t374, t375, t376, t377, t378, t379, t380, t381, t382, t383, t384, t385, t386, t387, t388, t389, t390, t391, t392, t393, t394], []⟩ w0 := by
  have HC := hide hc
  have hn2 := hc.hn2
  have hn := hc.hn
  have hk := hc.hk
  have hcs := hc.hcs
  have hcm := hc.hcm
  have hca := hc.hca
  have hcm2 := hc.hcm2
  have HN := hide hc.hnn
  have HO := hide hc.ho
  clear hc
  have hgs0 : x.gs < w0.heap.size := Nat.lt_of_lt_of_le HG.out.gs HW.out.tc.size
  have S19 := hide (tails19 x.lb x.lo x.gc x.gt x.k (cntTo s s.length) T0 w0 hk HW.out.bp HW.out.cn HW.out.at_ (by rw [sum_head]; have := head_le s x.k; have := HN.out; omega) HW.out.lv HO.out.d7.symm HO.out.d6.symm)
  conv => arg 2; whnf
  go_wp2_with fail
  refine (S19.out).mono ?_
  rintro e w1 ⟨rfl, hr1, ht1⟩
  have W1 : Hid (IW s x f0 (fun i => .int .u8 (Sais.c s i : Nat)) B A0 (Sais.tail s) w1) := HW.out.newT HO.out (hr1.congr (fun a _ => by rw [sum_tail])) ht1 hgs0
  clear hr1 ht1 S19 hgs0 HW
  go_wp2_with fail
  go_loopw [15] (fun v wr => ∃ (j : Nat) (A : Nat → Int), 1 ≤ j ∧ j ≤ n ∧ v = .int .i64 ((j : Int) - 1) ∧ IW s x f0 (fun i => .int .u8 (Sais.c s i : Nat)) B A (fun a => Sais.tail s a - Sais.cP s (Sais.P1 s) (Sais.tl s j) a) wr ∧ Sais.LayR s (Sais.P1 s) 0 (Sais.tl s j) A) (fun v _ => (intOf v).toNat)
  case atStart =>
    have e1 : Sais.tl s n = (Sais.P1 s).length := Sais.tl_ge (by rw [HN.out]; exact Nat.le_refl _)
    exact ⟨n, A0, by omega, Nat.le_refl _, rfl, W1.out.congr (fun _ _ => rfl) (fun a _ => by rw [e1, Sais.cP_end (Nat.le_refl _)]; rfl), Sais.LayR.start (fun y _ h2 => HA.out y (by rw [← HN.out]; exact h2)) (by rw [e1]; exact Nat.le_refl _)⟩
  case round =>
    clear W1 HA
    obtain ⟨j, A, hj1, hj, rfl, hW, hL⟩ := hrel
    have HW := hide hW
    have HL := hide hL
    clear hW hL
    by_cases h0 : j = 1
    · subst h0
      have e1 : Sais.tl s 1 = 0 := Sais.tl_no (by simp [Sais.lms])
      rw [e1] at HL
      have HL2 := hide (HL.out.laid Sais.P1_all)
      have ez : (((1 : Nat) : Int) - 1) = 0 := by omega
      rw [ez]
      clear ez e1
      repeat (fail_if_success (refine (id : Hid (Code.wp _ (Code.seq (Code.region 29 _ _) _) _ _ _) → _) ?_)); (first | go_values | go_skip | go_guarded | go_step | go_upon | go_back | (simp only [Int.not_lt, Int.not_le] at *; go_simp))
      exact tail14_16 s x f0 cs ca n A _ pl po l0 lc' NL bx F1 la2 w B wr P HC.out HG IH HW HL2 hP _ _ _ _ _ _ _ _ _ _ _ _ _ _ _ _ _ _ _ _ _ _ _ _ _ _ _ _ _ _ _ _ _ _ _ _ _ _ _ _ _ _ _ _ _ _ _ _ _ _ _ _ _ _ _ _ _ _ _ _ _ _ _ _ _ _ _ _ _ _ _ _ _ _ _ _ _ _ _ _ _ _ _ _ _ _ _ _ _ _ _ _ _ _ _ _ _ _ _ _ _ _ _ _ _ _ _ _ _ _ _ _ _ _ _ _ _ _ _ _ _ _ _ _ _ _ _ _ _ _ _ _ _ _ _ _ _ _ _ _ _ _ _ _ _ _ _ _ _ _ _ _ _ _ _ _ _ _ _ _ _ _ _ _ _ _ _ _ _ _ _ _ _ _ _ _ _ _ _ _ _ _ _ _ _ _ _ _ _ _ _ _ _ _ _ _ _ _ _ _ _ _ _ _ _ _ _ _ _ _ _ _ _ _ _ _ _ _ _ _ _ _ _ _ _ _ _ _ _ _ _ _ _ _ _ _ _ _ _ _ _ _ _ _ _ _ _ _ _ _ _ _ _ _ _ _ _ _ _ _ _ _ _ _ _ _ _ _ _ _ _ _ _ _ _ _ _ _ _ _ _ _ _ _ _ _ _ _ _ _ _ _ _ _ _ _ _ _ _ _ _ _ _ _ _ _ _ _ _ _ _ _ _ _ _ _ _ _ _ _ _ _ _ _ _ _ _ _ _ _ _ _ _ _ _ _ _ _ _ _ _ _ _ _ _ _ _ _ _ _ _ _ _ _ _ _ _ _ _ _ _ _ _ _ _ _ _ _ _ _ _ _ _ _ _ _ _ _ _ _ _ _ _ _ _ _ _ _
    · obtain ⟨p, rfl⟩ : ∃ p, j = p + 1 := ⟨j - 1, by omega⟩
      have ei : (((p + 1 : Nat) : Int) - 1) = (p : Int) := by omega
      rw [ei]
      have hp0 : 0 < p := by omega
      have hpi : (0 : Int) < (p : Int) := by omega
      have gp : decide ((0 : Int) < (p : Int)) = true := by simp; omega
      clear ei h0
      have c1 := HW.out.sm.cell (i := p) (by rw [HN.out]; omega)
      have c2 := HW.out.sm.cell (i := p - 1) (by rw [HN.out]; omega)
      have e1 : ((p : Int) - 1).toNat = p - 1 := by omega
      have hb1 : (0 : Int) ≤ (p : Int) - 1 := by omega
      have hb2 : (p : Int) - 1 < (n : Int) := by omega
      have hb3 : (p : Int) < (n : Int) := by omega
      have hw : IntKind.i64.wrap ((p : Int) - 1) = (p : Int) - 1 := by rw [IntKind.wrap_i64]; omega
      have hlm : Sais.lms s p = (Sais.sm s p && !(Sais.sm s (p - 1))) := by unfold Sais.lms; simp [hp0]
      have hty := Sais.tl_yes (s := s) (j := p)
      have htn := Sais.tl_no (s := s) (j := p)
      have hta := Sais.tl_at (s := s) (j := p)
      rw [hlm] at hty htn hta
      obtain ⟨u, hu⟩ : ∃ u, Sais.sm s p = u := ⟨_, rfl⟩
      obtain ⟨v, hv⟩ : ∃ v, Sais.sm s (p - 1) = v := ⟨_, rfl⟩
      rw [hu] at c1 hty htn hta
      rw [hv] at c2 hty htn hta
      clear hu hv hlm
      cases u
      · have ht := htn rfl
        rw [ht] at HW HL
        clear hty htn hta ht
        go_wp2_with fail
        go_roundw
        case rel => exact ⟨p, _, by omega, by omega, by go_num, HW.out, HL.out⟩
        case measure => simp [intOf]; omega
      · cases v
        · have ht := hty rfl
          have hp := hta rfl
          clear hty htn hta
          obtain ⟨t, hte⟩ : ∃ t, Sais.tl s p = t := ⟨_, rfl⟩
          rw [ht, hte] at HW HL
          rw [hte] at hp
          have hcp := HC.out.hsk p (by rw [HN.out]; omega)
          obtain ⟨q1, q2, q3⟩ := Sais.lay_T Sais.P1_all hp
          rw [HN.out] at q2
          obtain ⟨ch, hch⟩ : ∃ ch, Sais.c s p = ch := ⟨_, rfl⟩
          obtain ⟨ep, hep⟩ : ∃ ep, Sais.eP s (Sais.P1 s) p = ep := ⟨_, rfl⟩
          rw [hch, hep] at q1 q3
          rw [hep] at q2
          rw [hch] at hcp
          have b1 := HW.out.bp.p1
          have b2 := HW.out.sy p (by rw [HN.out]; omega)
          have b3 := HW.out.at_.cell hcp
          have b4 := HW.out.at_.frozen ch
          have b3' : wr.cell? ⟨x.gt, ch, none⟩ = some (.int .i32 ((ep : Int) + 1)) := by rw [b3, q1]; rfl
          have b2' : wr.cell? ⟨x.gs, x.os + p, none⟩ = some (.int .u8 (ch : Nat)) := by rw [b2, hch]
          have N2 : Hid (IW s x f0 (fun i => .int .u8 (Sais.c s i : Nat)) B A (fun a => Sais.tail s a - Sais.cP s (Sais.P1 s) t a) (wr.setCell ⟨x.gt, ch, none⟩ (.int .i32 (ep : Nat))).drew) := (HW.out.setT HO.out ch ep (fun b hb => q3 b)).drew
          obtain ⟨W3, hW3⟩ : ∃ W3, (wr.setCell ⟨x.gt, ch, none⟩ (.int .i32 (ep : Nat))).drew = W3 := ⟨_, rfl⟩
          rw [hW3] at N2
          have d1 := N2.out.bp.p1
          have d2 := N2.out.sy p (by rw [HN.out]; omega)
          have d3 := N2.out.at_.cell hcp
          have d3' : W3.cell? ⟨x.gt, ch, none⟩ = some (.int .i32 (ep : Nat)) := by rw [d3, q3, if_pos rfl]
          have d2' : W3.cell? ⟨x.gs, x.os + p, none⟩ = some (.int .u8 (ch : Nat)) := by rw [d2, hch]
          have d5 := N2.out.cellA HO.out (i := ep) (by rw [HN.out]; exact q2)
          have d6 := N2.out.sa.frozen (x.oa + ep)
          have N3 := hide (N2.out.setO HO.out (o := x.oa + ep) ep (by rw [HN.out]; exact q2) rfl (p : Int)).drew
          have NL2 : Hid (Sais.LayR s (Sais.P1 s) 0 t (fun y => if y = ep then (p : Int) else A y)) := HL.out.step Sais.P1_all hp (fun y _ => by rw [hep])
          rw [← hte] at N3 NL2
          have et : ((ep : Int) + 1 - 1) = (ep : Int) := by omega
          have eb1 : (ep : Int) < (n : Int) := by omega
          have eb3 : (ch : Int) < (x.k : Int) := by omega
          clear q1 q3 N2 b2 b3 d2 d3 hch hep hp HW HL ht hte
          go_wp2_with fail
          go_region
          go_wp2_with fail
          go_region
          go_wp2_with fail
          go_roundw
          case rel => exact ⟨p, _, by omega, by omega, by go_num, N3.out, NL2.out⟩
          case measure => simp [intOf]; omega
        · have ht := htn rfl
          rw [ht] at HW HL
          clear hty htn hta ht
          go_wp2_with fail
          go_roundw
          case rel => exact ⟨p, _, by omega, by omega, by go_num, HW.out, HL.out⟩
          case measure => simp [intOf]; omega


set_option maxHeartbeats 40000000 in
set_option maxRecDepth 100000 in
theorem tail11_16 (s : List Nat) (x : Cx) (f0 : Nat → Value) (cs ca n : Nat) (A0 : Nat → Int) (T0 : Nat → Nat) (pl po l0 lc' NL bx : Nat) (F1 : Nat → Value) (la2 : Option Addr) (w : World) (B w0 : World) (P : Ending → World → Prop) (hc : TC s x cs ca n) (HG : Hid (GB x pl po l0 lc' NL bx F1 la2 w B))
    (IH : Hid (∀ s' : List Nat, s'.length < s.length → SortSpec s'))
    (HW : Hid (IW s x f0 (fun i => .int .u8 (Sais.c s i : Nat)) B A0 T0 w0))
    (hP : Hid (∀ SA T' B' w', Sais.IsSA s SA → IW s x f0 (fun i => .int .u8 (Sais.c s i : Nat)) B' (fun y => (SA.getD y 0 : Int)) T' w' → GQ n x pl po l0 NL F1 w B' → P (.returned (.tuple #[])) w'))
    (t2 t4 t5 t6 t7 t9 t12 t14 t15 t16 t17 t18 t19 t20 t21 t22 t23 t24 t25 t26 t27 t28 t29 t30 t31 t32 t33 t34 t35 t36 t37 t38 t39 t40 t41 t42 t43 t44 t45 t46 t47 t48 t49 t50 t51 t52 t53 t54 t55 t56 t57 t58 t59 t60 t61 t62 t63 t64 t65 t66 t67 t68 t69 t70 t71 t72 t73 t74 t75 t76 t77 t78 t79 t80 t81 t82 t83 t84 t85 t86 t87 t88 t89 t90 t91 t92 t93 t94 t95 t96 t97 t98 t99 t100 t101 t102 t103 t104 t105 t106 t107 t108 t109 t110 t111 t112 t113 t114 t115 t116 t117 t118 t119 t120 t121 t122 t123 t124 t125 t126 t127 t128 t129 t130 t131 t132 t133 t134 t135 t136 t137 t138 t139 t140 t141 t142 t143 t144 t145 t146 t147 t148 t149 t150 t151 t152 t153 t154 t155 t156 t157 t158 t159 t160 t161 t162 t163 t164 t165 t166 t167 t168 t169 t170 t171 t172 t173 t174 t175 t176 t177 t178 t179 t180 t181 t182 t183 t184 t185 t186 t187 t188 t189 t190 t191 t192 t193 t194 t195 t196 t197 t198 t199 t200 t201 t202 t203 t204 t205 t206 t207 t208 t209 t210 t211 t212 t213 t214 t215 t216 t217 t218 t219 t220 t221 t222 t223 t224 t225 t226 t227 t228 t229 t230 t231 t232 t233 t234 t235 t236 t237 t238 t239 t240 t241 t242 t243 t244 t245 t246 t247 t248 t249 t250 t251 t252 t253 t254 t255 t256 t257 t258 t259 t260 t261 t262 t263 t264 t265 t266 t267 t268 t269 t270 t271 t272 t273 t274 t275 t276 t277 t278 t279 t280 t281 t282 t283 t284 t285 t286 t287 t288 t289 t290 t291 t292 t293 t294 t295 t296 t297 t298 t299 t300 t301 t302 t303 t304 t305 t306 t307 t308 t309 t310 t311 t312 t313 t314 t315 t316 t317 t318 t319 t320 t321 t322 t323 t324 t325 t326 t327 t328 t329 t330 t331 t332 t333 t334 t335 t336 t337 t338 t339 t340 t341 t342 t343 t344 t345 t346 t347 t348 t349 t350 t351 t352 t353 t354 t355 t356 t357 t358 t359 t360 t361 t362 t363 t364 t365 t366 t367 t368 t369 t370 t371 t372 t373 t374 t375 t376 t377 t378 t379 t380 t381 t382 t383 t384 t385 t386 t387 t388 t389 t390 t391 t392 t393 t394 : Value) :
    Code.wp Try.prog (dropS 11 (Try.f16.body.getD .skip)) (bodyPost Try.prog Try.f16 P) ⟨#[.slice (some ⟨x.gs, x.os, none⟩) n cs, .slice (some ⟨x.ga, x.oa, none⟩) n ca, t2, .pointer (some ⟨pl, po, none⟩), t4, t5, t6, t7, .int .i64 n, t9, .pointer (some ⟨bx, 0, none⟩), .slice (some ⟨x.gm, 0, none⟩) n n, t12, .pointer (some ⟨x.lb, x.lo, none⟩), t14, t15, t16, t17, t18, t19, t20, t21, t22, t23, t24, t25, t26, t27, t28, t29, t30, t31, t32, t33, t34, t35, t36, t37, t38, t39, t40, t41, t42, t43, t44, t45, t46, t47, t48, t49, t50, t51, t52, t53, t54, t55, t56, t57, t58, t59, t60, t61, t62, t63, t64, t65, t66, t67, t68, t69, t70, t71, t72, t73, t74, t75, t76, t77, t78, t79, t80, t81, t82, t83, t84, t85, t86, t87, t88, t89, t90, t91, t92, t93, t94, t95, t96, t97, t98, t99, t100, t101, t102, t103, t104, t105, t106, t107, t108, t109, t110, t111, t112, t113, t114, t115, t116, t117, t118, t119, t120, t121, t122, t123, t124, t125, t126, t127, t128, t129, t130, t131, t132, t133, t134, t135, t136, t137, t138, t139, t140, t141, t142, t143, t144, t145, t146, t147, t148, t149, t150, t151, t152, t153, t154, t155, t156, t157, t158, t159, t160, t161, t162, t163, t164, t165, t166, t167, t168, t169, t170, t171, t172, t173, t174, t175, t176, t177, t178, t179, t180, t181, t182, t183, t184, t185, t186, t187, t188, t189, t190, t191, t192, t193, t194, t195, t196, t197, t198, t199, t200, t201, t202, t203, t204, t205, t206, t207, t208, t209, t210, t211, t212, t213, t214, t215, t216, t217, t218, t219, t220, t221, t222, t223, t224, t225, t226, t227, t228, t229, t230, t231, t232, t233, t234, t235, t236, t237, t238, t239, t240, t241, t242, t243, t244, t245, t246, t247, t248, t249, t250, t251, t252, t253, t254, t255, t256, t257, t258, t259, t260, t261, t262, t263, t264, t265, t266, t267, t268, t269, t270, t271, t272, t273, t274, t275, t276, t277, t278, t279, t280, t281, t282, t283, t284, t285, t286, t287, t288, t289, t290, t291, t292, t293, t294, t295, t296, t297, t298, t299, t300, t301, t302, t303, t304, t305, t306, t307, t308, t309, t310, t311, t312, t313, t314, t315, t316, t317, t318, t319, t320, t321, t322, t323, t324, t325, t326, t327, t328, t329, t330, t331, t332, t333, t334, t335, t336, t337, t338, t339, t340, t341, t342, t343, t344, t345, t346, t347, t348, t349, t350, t351, t352, t353, t354, t355, t356, t357, t358, t359, t360, t361, t362, t363, t364, t365, t366, t367, t368, t369, t370, t371, t372, t373, t374, t375, t376, t377, t378, t379, t380, t381, t382, t383, t384, t385, t386, t387, t388, t389, t390, t391, t392, t393, t394], []⟩ w0 := by
  have HC := hide hc
  have hn2 := hc.hn2
  have hn := hc.hn
  have hk := hc.hk
  have hcs := hc.hcs
  have hcm := hc.hcm
  have hca := hc.hca
  have hcm2 := hc.hcm2
  have HN := hide hc.hnn
  have HO := hide hc.ho
  clear hc
  conv => arg 2; whnf
  go_wp2_with fail
  go_loopw [129] (fun v wr => ∃ (i : Nat) (A : Nat → Int), i ≤ n ∧ v = .int .i64 (i : Nat) ∧ IW s x f0 (fun i => .int .u8 (Sais.c s i : Nat)) B A T0 wr ∧ (∀ y, y < i → A y = -1)) (fun v _ => n - (intOf v).toNat)
  case atStart => exact ⟨0, A0, Nat.zero_le _, rfl, HW.out, fun y h1 => by omega⟩
  case round =>
    clear HW
    obtain ⟨i, A, hi, rfl, hW, hA2⟩ := hrel
    have HW := hide hW
    have HA2 := hide hA2
    clear hW hA2
    by_cases hlt : i < n
    · have c1 := HW.out.cellA HO.out (i := i) (by rw [HN.out]; omega)
      have c2 := HW.out.sa.frozen (x.oa + i)
      have N1 := hide (HW.out.setO HO.out (o := x.oa + i) i (by rw [HN.out]; omega) rfl (-1))
      have NA2 : Hid (∀ q, q < i + 1 → (fun y => if y = i then -1 else A y) q = -1) := fun y h2 => by
        show (if y = i then -1 else A y) = _
        by_cases e : y = i
        · rw [if_pos (by omega)]
        · rw [if_neg (by omega)]; exact HA2.out y (by omega)
      have eb : (i : Int) < (n : Int) := by omega
      clear HW HA2
      go_wp2_with fail
      go_roundw
      case rel => exact ⟨i + 1, _, by omega, by go_num, N1.out, NA2.out⟩
      case measure => simp [intOf]; omega
    · obtain rfl : n = i := by omega
      clear hlt
      repeat (fail_if_success (refine (id : Hid (Code.wp _ (Code.seq (Code.region 22 _ _) _) _ _ _) → _) ?_)); (first | go_values | go_skip | go_guarded | go_step | go_upon | go_back | (simp only [Int.not_lt, Int.not_le] at *; go_simp))
      exact tail12_16 s x f0 cs ca n A T0 pl po l0 lc' NL bx F1 la2 w B wr P HC.out HG IH HW HA2 hP _ _ _ _ _ _ _ _ _ _ _ _ _ _ _ _ _ _ _ _ _ _ _ _ _ _ _ _ _ _ _ _ _ _ _ _ _ _ _ _ _ _ _ _ _ _ _ _ _ _ _ _ _ _ _ _ _ _ _ _ _ _ _ _ _ _ _ _ _ _ _ _ _ _ _ _ _ _ _ _ _ _ _ _ _ _ _ _ _ _ _ _ _ _ _ _ _ _ _ _ _ _ _ _ _ _ _ _ _ _ _ _ _ _ _ _ _ _ _ _ _ _ _ _ _ _ _ _ _ _ _ _ _ _ _ _ _ _ _ _ _ _ _ _ _ _ _ _ _ _ _ _ _ _ _ _ _ _ _ _ _ _ _ _ _ _ _ _ _ _ _ _ _ _ _ _ _ _ _ _ _ _ _ _ _ _ _ _ _ _ _ _ _ _ _ _ _ _ _ _ _ _ _ _ _ _ _ _ _ _ _ _ _ _ _ _ _ _ _ _ _ _ _ _ _ _ _ _ _ _ _ _ _ _ _ _ _ _ _ _ _ _ _ _ _ _ _ _ _ _ _ _ _ _ _ _ _ _ _ _ _ _ _ _ _ _ _ _ _ _ _ _ _ _ _ _ _ _ _ _ _ _ _ _ _ _ _ _ _ _ _ _ _ _ _ _ _ _ _ _ _ _ _ _ _ _ _ _ _ _ _ _ _ _ _ _ _ _ _ _ _ _ _ _ _ _ _ _ _ _ _ _ _ _ _ _ _ _ _ _ _ _ _ _ _ _ _ _ _ _ _ _ _ _ _ _ _ _ _ _ _ _ _ _ _ _ _ _ _ _ _ _ _ _ _ _ _ _ _ _ _ _ _ _ _ _ _ _

end Go.Proofs.Qxb6606288a

