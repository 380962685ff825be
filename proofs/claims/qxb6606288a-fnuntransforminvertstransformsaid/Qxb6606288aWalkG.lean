import Derived.Test.Qxb6606288aWalkF
namespace Go.Proofs.Qxb6606288a
open Go.RowKit Go.Deep
set_option linter.unusedVariables false

set_option maxHeartbeats 40000000 in
set_option maxRecDepth 100000 in
theorem tail30_23 (s : List Nat) (x : Cx) (f0 : Nat → Value) (cs ca n m : Nat) (A0 : Nat → Int) (T0 : Nat → Nat) (B w0 : World) (P2 : List Nat) (P : Ending → World → Prop) (hc : TC s x cs ca n) (hgs : Hid (x.gs < B.heap.size)) (hmn : m ≤ n)
    (HW : Hid (IW s x f0 (fun i => .int .i32 (Sais.c s i : Nat)) B A0 T0 w0)) (HP2 : Hid (Sais.AllL s P2)) (HPw : Hid (P2.Pairwise (Sais.lt s))) (HPl : Hid (P2.length = m)) (HA1 : Hid (∀ y, y < m → A0 y = (P2.getD y 0 : Nat))) (HA2 : Hid (∀ y, m ≤ y → y < n → A0 y = -1))
    (hP : Hid (∀ T' w', IW s x f0 (fun i => .int .i32 (Sais.c s i : Nat)) B (fun y => (Sais.ux s (Sais.eP s P2) y : Int)) T' w' → P (.returned (.tuple #[])) w'))
    (t2 t3 t4 t5 t6 t7 t9 t10 t12 t14 t15 t17 t18 t19 t20 t21 t22 t23 t24 t25 t26 t27 t28 t29 t30 t31 t32 t33 t34 t35 t36 t37 t38 t39 t40 t41 t42 t43 t44 t45 t46 t47 t48 t49 t50 t51 t52 t53 t54 t55 t56 t57 t58 t59 t60 t61 t62 t63 t64 t65 t66 t67 t68 t69 t70 t71 t72 t73 t74 t75 t76 t77 t78 t79 t80 t81 t82 t83 t84 t85 t86 t87 t88 t89 t90 t91 t92 t93 t94 t95 t96 t97 t98 t99 t100 t101 t102 t103 t104 t105 t106 t107 t108 t109 t110 t111 t112 t113 t114 t115 t116 t117 t118 t119 t120 t121 t122 t123 t124 t125 t126 t127 t128 t129 t130 t131 t132 t133 t134 t135 t136 t137 t138 t139 t140 t141 t142 t143 t144 t145 t146 t147 t148 t149 t150 t151 t152 t153 t154 t155 t156 t157 t158 t159 t160 t161 t162 t163 t164 t165 t166 t167 t168 t169 t170 t171 t172 t173 t174 t175 t176 t177 t178 t179 t180 t181 t182 t183 t184 t185 t186 t187 t188 t189 t190 t191 t192 t193 t194 t195 t196 t197 t198 t199 t200 t201 t202 t203 t204 t205 t206 t207 t208 t209 t210 t211 t212 t213 t214 t215 t216 t217 t218 t219 t220 t221 t222 t223 t224 t225 t226 t227 t228 t229 t230 t231 t232 t233 t234 t235 t236 t237 t238 t239 t240 t241 t242 t243 t244 t245 t246 t247 t248 t249 t250 t251 t252 t253 t254 t255 t256 t257 t258 t259 t260 t261 t262 t263 t264 t265 t266 t267 t268 t269 t270 t271 t272 t273 t274 t275 t276 t277 t278 t279 t280 t281 t282 t283 t284 t285 t286 t287 t288 t289 t290 t291 t292 t293 t294 t295 t296 t297 t298 t299 t300 t301 t302 t303 t304 t305 t306 t307 t308 t309 t310 t311 t312 t313 t314 t315 t316 t317 t318 t319 t320 t321 t322 t323 t324 t325 t326 t327 t328 t329 t330 t331 t332 t333 t334 t335 t336 t337 t338 t339 t340 t341 t342 t343 t344 t345 t346 t347 t348 t349 t350 t351 t352 t353 t354 t355 t356 t357 t358 t359 t360 t361 t362 t363 t364 t365 t366 t367 t368 t369 t370 t371 t372 t373 t374 t375 t376 t377 t378 t379 t380 t381 t382 t383 t384 t385 t386 t387 t388 t389 t390 t391 t392 t393 t394 : Value) :
    Code.wp Try.prog (dropS 30 (Try.f23.body.getD .skip)) (bodyPost Try.prog Try.f23 P) ⟨#[.slice (some ⟨x.gs, x.os, none⟩) n cs, .slice (some ⟨x.ga, x.oa, none⟩) n ca, t2, t3, t4, t5, t6, t7, .int .i64 n, t9, t10, .slice (some ⟨x.gm, 0, none⟩) n n, t12, .pointer (some ⟨x.lb, x.lo, none⟩), t14, t15, .int .i64 m, t17, t18, t19, t20, t21, t22, t23, t24, t25, t26, t27, t28, t29, t30, t31, t32, t33, t34, t35, t36, t37, t38, t39, t40, t41, t42, t43, t44, t45, t46, t47, t48, t49, t50, t51, t52, t53, t54, t55, t56, t57, t58, t59, t60, t61, t62, t63, t64, t65, t66, t67, t68, t69, t70, t71, t72, t73, t74, t75, t76, t77, t78, t79, t80, t81, t82, t83, t84, t85, t86, t87, t88, t89, t90, t91, t92, t93, t94, t95, t96, t97, t98, t99, t100, t101, t102, t103, t104, t105, t106, t107, t108, t109, t110, t111, t112, t113, t114, t115, t116, t117, t118, t119, t120, t121, t122, t123, t124, t125, t126, t127, t128, t129, t130, t131, t132, t133, t134, t135, t136, t137, t138, t139, t140, t141, t142, t143, t144, t145, t146, t147, t148, t149, t150, t151, t152, t153, t154, t155, t156, t157, t158, t159, t160, t161, t162, t163, t164, t165, t166, t167, t168, t169, t170, t171, t172, t173, t174, t175, t176, t177, t178, t179, t180, t181, t182, t183, t184, t185, t186, t187, t188, t189, t190, t191, t192, t193, t194, t195, t196, t197, t198, t199, t200, t201, t202, t203, t204, t205, t206, t207, t208, t209, t210, t211, t212, t213, t214, t215, t216, t217, t218, t219, t220, t221, t222, t223, t224, t225, t226, t227, t228, t229, t230, t231, t232, t233, t234, t235, t236, t237, t238, t239, t240, t241, t242, t243, t244, t245, t246, t247, t248, t249, t250, t251, t252, t253, t254, t255, t256, t257, t258, t259, t260, t261, t262, t263, t264, t265, t266, t267, t268, t269, t270, t271, t272, t273, t274, t275, t276, t277, t278, t279, t280, t281, t282, t283, t284, t285, t286, t287, t288, t289, t290, t291, t292, t293, t294, t295, t296, t297, t298, t299, t300, t301, t302, t303, t304, t305, t306, t307, t308, t309, t310, t311, t312, t313, t314, t315, t316, t317, t318, t319, t320, t321, t322, t323, t324, t325, t326, t327, t328, t329, t330, t331, t332, t333, t334, t335, t336, t337, t338, t339, t340, t341, t342, t343, t344, t345, t346, t347, t348, t349, t350, t351, t352, t353, t354, t355, t356, t357, t358, t359, t360, t361, t362, t363, t364, t365, t366, t367, t368, t369, t370, t371, t372, t373, t374, t375, t376, t377, t378, t379, t380, t381, t382, t383, t384, t385, t386, t387, t388, t389, t390, t391, t392, t393, t394], []⟩ w0 := by
  have HC := hide hc
  have hn2 := hc.hn2
  have hn := hc.hn
  have hk := hc.hk
  have hcs := hc.hcs
  have hcm := hc.hcm
  have hca := hc.hca
  have hcm2 := hc.hcm2
  have HN := hide hc.hnn
  have HO := hide hc.ho
  clear hc
  have hgs0 : x.gs < w0.heap.size := Nat.lt_of_lt_of_le hgs.out HW.out.tc.size
  have S19 := hide (tails19 x.lb x.lo x.gc x.gt x.k (cntTo s s.length) T0 w0 hk HW.out.bp HW.out.cn HW.out.at_ (by rw [sum_head]; have := head_le s x.k; have := HN.out; omega) HW.out.lv HO.out.d7.symm HO.out.d6.symm)
  conv => arg 2; whnf
  go_wp2_with fail
  refine (S19.out).mono ?_
  rintro e w1 ⟨rfl, hr1, ht1⟩
  have W1 : Hid (IW s x f0 (fun i => .int .i32 (Sais.c s i : Nat)) B A0 (Sais.tail s) w1) := HW.out.newT HO.out (hr1.congr (fun a _ => by rw [sum_tail])) ht1 hgs0
  clear hr1 ht1 S19 hgs0
  go_wp2_with fail
  go_loopw [34] (fun v wr => ∃ (t : Nat) (A : Nat → Int), t ≤ m ∧ v = .int .i64 ((t : Int) - 1) ∧ IW s x f0 (fun i => .int .i32 (Sais.c s i : Nat)) B A (fun a => Sais.tail s a - Sais.cP s P2 t a) wr ∧ (∀ y, y < t → A y = (P2.getD y 0 : Nat)) ∧ Sais.LayR s P2 t t A) (fun v _ => (intOf v + 1).toNat)
  case atStart => exact ⟨m, A0, Nat.le_refl _, rfl, W1.out.congr (fun _ _ => rfl) (fun a _ => by rw [Sais.cP_end (by rw [HPl.out]; exact Nat.le_refl _)]; rfl), HA1.out, Sais.LayR.start (fun y h1 h2 => HA2.out y h1 (by rw [← HN.out]; exact h2)) (by rw [HPl.out]; exact Nat.le_refl _)⟩
  case round =>
    clear W1 HA1 HA2 HW
    obtain ⟨t, A, ht, rfl, hW, hA, hL⟩ := hrel
    have HW := hide hW
    have HA := hide hA
    have HL := hide hL
    clear hW hA hL
    by_cases h0 : t = 0
    · subst h0
      have hgs1 : x.gs < wr.heap.size := Nat.lt_of_lt_of_le hgs.out HW.out.tc.size
      have S26 := hide (ind26 s x f0 cs ca (Sais.eP s P2) A _ wr HO.out (by have := HN.out; omega) (by have := HN.out; omega) hk HC.out.hsk (by rw [HN.out]; exact hcs) hcm (by rw [HN.out]; exact hca) hcm2 hgs1 HP2.out.init (HL.out.laid HP2.out) HW.out.self)
      rw [HN.out] at S26
      clear hgs1
      go_wp2_with fail
      refine (S26.out).mono ?_
      rintro e w6 ⟨rfl, T', hI⟩
      have HF : Hid (IW s x f0 (fun i => .int .i32 (Sais.c s i : Nat)) B (fun y => (Sais.ux s (Sais.eP s P2) y : Int)) T' w6) := HW.out.rebase hI
      clear hI S26
      go_wp2_with fail
      go_end0
      exact hP.out _ _ HF.out
    · obtain ⟨t, rfl⟩ : ∃ t', t = t' + 1 := ⟨t - 1, by omega⟩
      have ei : (((t + 1 : Nat) : Int) - 1) = (t : Int) := by omega
      rw [ei]
      clear ei h0
      obtain ⟨p, hp⟩ : ∃ p, P2[t]? = some p := ⟨_, List.getElem?_eq_getElem (by rw [HPl.out]; omega)⟩
      have hpg : P2.getD t 0 = p := by rw [List.getD_eq_getElem?_getD, hp]; rfl
      have hpn : p < n := by have := Sais.lms_lt (HP2.out.get hp); rw [HN.out] at this; omega
      have hcp := HC.out.hsk p (by rw [HN.out]; exact hpn)
      obtain ⟨q1, q2, q3⟩ := Sais.lay_T HP2.out hp
      rw [HN.out] at q2
      have hge := HP2.out.eP_ge HPw.out hp
      have c1 := HW.out.cellA HO.out (i := t) (by rw [HN.out]; omega)
      rw [HA.out t (by omega), hpg] at c1
      have c2 := HW.out.sa.frozen (x.oa + t)
      have N1 := hide (HW.out.setO HO.out (o := x.oa + t) t (by rw [HN.out]; omega) rfl (-1))
      obtain ⟨W2, hW2⟩ : ∃ W2, wr.setCell ⟨x.ga, x.oa + t, none⟩ (.int .i32 (-1)) = W2 := ⟨_, rfl⟩
      rw [hW2] at N1
      obtain ⟨ch, hch⟩ : ∃ ch, Sais.c s p = ch := ⟨_, rfl⟩
      obtain ⟨ep, hep⟩ : ∃ ep, Sais.eP s P2 p = ep := ⟨_, rfl⟩
      rw [hch, hep] at q1 q3
      rw [hep] at q2 hge
      rw [hch] at hcp
      have b1 := N1.out.bp.p1
      have b2 := N1.out.sy p (by rw [HN.out]; exact hpn)
      have b3 := N1.out.at_.cell hcp
      have b4 := N1.out.at_.frozen ch
      have b3' : W2.cell? ⟨x.gt, ch, none⟩ = some (.int .i32 ((ep : Int) + 1)) := by rw [b3, q1]; rfl
      have b2' : W2.cell? ⟨x.gs, x.os + p, none⟩ = some (.int .i32 (ch : Nat)) := by rw [b2, hch]
      have N2 : Hid (IW s x f0 (fun i => .int .i32 (Sais.c s i : Nat)) B (fun y => if y = t then -1 else A y) (fun a => Sais.tail s a - Sais.cP s P2 t a) (W2.setCell ⟨x.gt, ch, none⟩ (.int .i32 (ep : Nat))).drew) := (N1.out.setT HO.out ch ep (fun b hb => q3 b)).drew
      obtain ⟨W3, hW3⟩ : ∃ W3, (W2.setCell ⟨x.gt, ch, none⟩ (.int .i32 (ep : Nat))).drew = W3 := ⟨_, rfl⟩
      rw [hW3] at N2
      have d1 := N2.out.bp.p1
      have d2 := N2.out.sy p (by rw [HN.out]; exact hpn)
      have d3 := N2.out.at_.cell hcp
      have d3' : W3.cell? ⟨x.gt, ch, none⟩ = some (.int .i32 (ep : Nat)) := by rw [d3, q3, if_pos rfl]
      have d2' : W3.cell? ⟨x.gs, x.os + p, none⟩ = some (.int .i32 (ch : Nat)) := by rw [d2, hch]
      have d5 := N2.out.cellA HO.out (i := ep) (by rw [HN.out]; exact q2)
      have d6 := N2.out.sa.frozen (x.oa + ep)
      have N3 := hide (N2.out.setO HO.out (o := x.oa + ep) ep (by rw [HN.out]; exact q2) rfl (p : Int)).drew
      have NL : Hid (Sais.LayR s P2 t t (fun y => if y = ep then (p : Int) else if y = t then -1 else A y)) := HL.out.step2 HP2.out HPw.out hp (fun y _ => by rw [hep])
      have NA : Hid (∀ y, y < t → (fun y => if y = ep then (p : Int) else if y = t then -1 else A y) y = (P2.getD y 0 : Nat)) := fun y hy => by
        show (if y = ep then (p : Int) else if y = t then -1 else A y) = _
        rw [if_neg (by omega), if_neg (by omega)]; exact HA.out y (by omega)
      have et : ((ep : Int) + 1 - 1) = (ep : Int) := by omega
      have eb1 : (ep : Int) < (n : Int) := by omega
      have eb2 : (p : Int) < (n : Int) := by omega
      have eb3 : (ch : Int) < (x.k : Int) := by omega
      have eb4 : (t : Int) < (n : Int) := by omega
      clear q1 q3 N1 N2 b2 b3 d2 d3 hch hep hp hpg HW HA HL hge
      go_wp2_with fail
      go_region
      go_wp2_with fail
      go_region
      go_wp2_with fail
      go_roundw
      case rel => exact ⟨t, _, by omega, by go_num, N3.out, NA.out, NL.out⟩
      case measure => simp [intOf]


set_option maxHeartbeats 40000000 in
set_option maxRecDepth 100000 in
theorem tail29_23 (s : List Nat) (x : Cx) (f0 : Nat → Value) (cs ca n m : Nat) (A0 : Nat → Int) (T0 : Nat → Nat) (B w0 : World) (P2 : List Nat) (P : Ending → World → Prop) (hc : TC s x cs ca n) (hgs : Hid (x.gs < B.heap.size)) (hmn : m ≤ n)
    (HW : Hid (IW s x f0 (fun i => .int .i32 (Sais.c s i : Nat)) B A0 T0 w0)) (HP2 : Hid (Sais.AllL s P2)) (HPw : Hid (P2.Pairwise (Sais.lt s))) (HPl : Hid (P2.length = m)) (HA1 : Hid (∀ y, y < m → A0 y = (P2.getD y 0 : Nat)))
    (hP : Hid (∀ T' w', IW s x f0 (fun i => .int .i32 (Sais.c s i : Nat)) B (fun y => (Sais.ux s (Sais.eP s P2) y : Int)) T' w' → P (.returned (.tuple #[])) w'))
    (t2 t3 t4 t5 t6 t7 t9 t10 t12 t14 t15 t17 t18 t19 t20 t21 t22 t23 t24 t25 t26 t27 t28 t29 t30 t31 t32 t33 t34 t35 t36 t37 t38 t39 t40 t41 t42 t43 t44 t45 t46 t47 t48 t49 t50 t51 t52 t53 t54 t55 t56 t57 t58 t59 t60 t61 t62 t63 t64 t65 t66 t67 t68 t69 t70 t71 t72 t73 t74 t75 t76 t77 t78 t79 t80 t81 t82 t83 t84 t85 t86 t87 t88 t89 t90 t91 t92 t93 t94 t95 t96 t97 t98 t99 t100 t101 t102 t103 t104 t105 t106 t107 t108 t109 t110 t111 t112 t113 t114 t115 t116 t117 t118 t119 t120 t121 t122 t123 t124 t125 t126 t127 t128 t129 t130 t131 t132 t133 t134 t135 t136 t137 t138 t139 t140 t141 t142 t143 t144 t145 t146 t147 t148 t149 t150 t151 t152 t153 t154 t155 t156 t157 t158 t159 t160 t161 t162 t163 t164 t165 t166 t167 t168 t169 t170 t171 t172 t173 t174 t175 t176 t177 t178 t179 t180 t181 t182 t183 t184 t185 t186 t187 t188 t189 t190 t191 t192 t193 t194 t195 t196 t197 t198 t199 t200 t201 t202 t203 t204 t205 t206 t207 t208 t209 t210 t211 t212 t213 t214 t215 t216 t217 t218 t219 t220 t221 t222 t223 t224 t225 t226 t227 t228 t229 t230 t231 t232 t233 t234 t235 t236 t237 t238 t239 t240 t241 t242 t243 t244 t245 t246 t247 t248 t249 t250 t251 t252 t253 t254 t255 t256 t257 t258 t259 t260 t261 t262 t263 t264 t265 t266 t267 t268 t269 t270 t271 t272 t273 t274 t275 t276 t277 t278 t279 t280 t281 t282 t283 t284 t285 t286 t287 t288 t289 t290 t291 t292 t293 t294 t295 t296 t297 t298 t299 t300 t301 t302 t303 t304 t305 t306 t307 t308 t309 t310 t311 t312 t313 t314 t315 t316 t317 t318 t319 t320 t321 t322 t323 t324 t325 t326 t327 t328 t329 t330 t331 t332 t333 t334 t335 t336 t337 t338 t339 t340 t341 t342 t343 t344 t345 t346 t347 t348 t349 t350 t351 t352 t353 t354 t355 t356 t357 t358 t359 t360 t361 t362 t363 t364 t365 t366 t367 t368 t369 t370 t371 t372 t373 t374 t375 t376 t377 t378 t379 t380 t381 t382 t383 t384 t385 t386 t387 t388 t389 t390 t391 t392 t393 t394 : Value) :
    Code.wp Try.prog (dropS 29 (Try.f23.body.getD .skip)) (bodyPost Try.prog Try.f23 P) ⟨#[.slice (some ⟨x.gs, x.os, none⟩) n cs, .slice (some ⟨x.ga, x.oa, none⟩) n ca, t2, t3, t4, t5, t6, t7, .int .i64 n, t9, t10, .slice (some ⟨x.gm, 0, none⟩) n n, t12, .pointer (some ⟨x.lb, x.lo, none⟩), t14, t15, .int .i64 m, t17, t18, t19, t20, t21, t22, t23, t24, t25, t26, t27, t28, t29, t30, t31, t32, t33, t34, t35, t36, t37, t38, t39, t40, t41, t42, t43, t44, t45, t46, t47, t48, t49, t50, t51, t52, t53, t54, t55, t56, t57, t58, t59, t60, t61, t62, t63, t64, t65, t66, t67, t68, t69, t70, t71, t72, t73, t74, t75, t76, t77, t78, t79, t80, t81, t82, t83, t84, t85, t86, t87, t88, t89, t90, t91, t92, t93, t94, t95, t96, t97, t98, t99, t100, t101, t102, t103, t104, t105, t106, t107, t108, t109, t110, t111, t112, t113, t114, t115, t116, t117, t118, t119, t120, t121, t122, t123, t124, t125, t126, t127, t128, t129, t130, t131, t132, t133, t134, t135, t136, t137, t138, t139, t140, t141, t142, t143, t144, t145, t146, t147, t148, t149, t150, t151, t152, t153, t154, t155, t156, t157, t158, t159, t160, t161, t162, t163, t164, t165, t166, t167, t168, t169, t170, t171, t172, t173, t174, t175, t176, t177, t178, t179, t180, t181, t182, t183, t184, t185, t186, t187, t188, t189, t190, t191, t192, t193, t194, t195, t196, t197, t198, t199, t200, t201, t202, t203, t204, t205, t206, t207, t208, t209, t210, t211, t212, t213, t214, t215, t216, t217, t218, t219, t220, t221, t222, t223, t224, t225, t226, t227, t228, t229, t230, t231, t232, t233, t234, t235, t236, t237, t238, t239, t240, t241, t242, t243, t244, t245, t246, t247, t248, t249, t250, t251, t252, t253, t254, t255, t256, t257, t258, t259, t260, t261, t262, t263, t264, t265, t266, t267, t268, t269, t270, t271, t272, t273, t274, t275, t276, t277, t278, t279, t280, t281, t282, t283, t284, t285, t286, t287, t288, t289, t290, t291, t292, t293, t294, t295, t296, t297, t298, t299, t300, t301, t302, t303, t304, t305, t306, t307, t308, t309, t310, t311, t312, t313, t314, t315, t316, t317, t318, t319, t320, t321, t322, t323, t324, t325, t326, t327, t328, t329, t330, t331, t332, t333, t334, t335, t336, t337, t338, t339, t340, t341, t342, t343, t344, t345, t346, t347, t348, t349, t350, t351, t352, t353, t354, t355, t356, t357, t358, t359, t360, t361, t362, t363, t364, t365, t366, t367, t368, t369, t370, t371, t372, t373, t374, t375, t376, t377, t378, t379, t380, t381, t382, t383, t384, t385, t386, t387, t388, t389, t390, t391, t392, t393, t394], []⟩ w0 := by
  have HC := hide hc
  have hn2 := hc.hn2
  have hn := hc.hn
  have hk := hc.hk
  have hcs := hc.hcs
  have hcm := hc.hcm
  have hca := hc.hca
  have hcm2 := hc.hcm2
  have HN := hide hc.hnn
  have HO := hide hc.ho
  clear hc
  conv => arg 2; whnf
  go_wp2_with fail
  go_loopw [33] (fun v wr => ∃ (i : Nat) (A : Nat → Int), m ≤ i ∧ i ≤ n ∧ v = .int .i64 (i : Nat) ∧ IW s x f0 (fun i => .int .i32 (Sais.c s i : Nat)) B A T0 wr ∧ (∀ y, y < m → A y = (P2.getD y 0 : Nat)) ∧ (∀ y, m ≤ y → y < i → A y = -1)) (fun v _ => n - (intOf v).toNat)
  case atStart => exact ⟨m, A0, Nat.le_refl _, hmn, rfl, HW.out, HA1.out, fun y h1 h2 => by omega⟩
  case round =>
    clear HW HA1
    obtain ⟨i, A, hmi, hi, rfl, hW, hA1, hA2⟩ := hrel
    have HW := hide hW
    have HA1 := hide hA1
    have HA2 := hide hA2
    clear hW hA1 hA2
    by_cases hlt : i < n
    · have c1 := HW.out.cellA HO.out (i := i) (by rw [HN.out]; omega)
      have c2 := HW.out.sa.frozen (x.oa + i)
      have N1 := hide (HW.out.setO HO.out (o := x.oa + i) i (by rw [HN.out]; omega) rfl (-1))
      have NA1 : Hid (∀ y, y < m → (fun y => if y = i then -1 else A y) y = (P2.getD y 0 : Nat)) := fun y hy => by
        show (if y = i then -1 else A y) = _
        rw [if_neg (by omega)]; exact HA1.out y hy
      have NA2 : Hid (∀ y, m ≤ y → y < i + 1 → (fun y => if y = i then -1 else A y) y = -1) := fun y h1 h2 => by
        show (if y = i then -1 else A y) = _
        by_cases e : y = i
        · rw [if_pos e]
        · rw [if_neg e]; exact HA2.out y h1 (by omega)
      clear HW HA1 HA2
      go_wp2_with fail
      go_roundw
      case rel => exact ⟨i + 1, _, by omega, by omega, by go_num, N1.out, NA1.out, NA2.out⟩
      case measure => simp [intOf]; omega
    · obtain rfl : n = i := by omega
      clear hlt
      repeat (fail_if_success (refine (id : Hid (Code.wp _ (Code.seq (Code.region 85 _ _) _) _ _ _) → _) ?_)); (first | go_values | go_skip | go_guarded | go_step | go_upon | go_back | (simp only [Int.not_lt, Int.not_le] at *; go_simp))
      exact tail30_23 s x f0 cs ca n m A T0 B wr P2 P HC.out hgs hmn HW HP2 HPw HPl HA1 HA2 hP _ _ _ _ _ _ _ _ _ _ _ _ _ _ _ _ _ _ _ _ _ _ _ _ _ _ _ _ _ _ _ _ _ _ _ _ _ _ _ _ _ _ _ _ _ _ _ _ _ _ _ _ _ _ _ _ _ _ _ _ _ _ _ _ _ _ _ _ _ _ _ _ _ _ _ _ _ _ _ _ _ _ _ _ _ _ _ _ _ _ _ _ _ _ _ _ _ _ _ _ _ _ _ _ _ _ _ _ _ _ _ _ _ _ _ _ _ _ _ _ _ _ _ _ _ _ _ _ _ _ _ _ _ _ _ _ _ _ _ _ _ _ _ _ _ _ _ _ _ _ _ _ _ _ _ _ _ _ _ _ _ _ _ _ _ _ _ _ _ _ _ _ _ _ _ _ _ _ _ _ _ _ _ _ _ _ _ _ _ _ _ _ _ _ _ _ _ _ _ _ _ _ _ _ _ _ _ _ _ _ _ _ _ _ _ _ _ _ _ _ _ _ _ _ _ _ _ _ _ _ _ _ _ _ _ _ _ _ _ _ _ _ _ _ _ _ _ _ _ _ _ _ _ _ _ _ _ _ _ _ _ _ _ _ _ _ _ _ _ _ _ _ _ _ _ _ _ _ _ _ _ _ _ _ _ _ _ _ _ _ _ _ _ _ _ _ _ _ _ _ _ _ _ _ _ _ _ _ _ _ _ _ _ _ _ _ _ _ _ _ _ _ _ _ _ _ _ _ _ _ _ _ _ _ _ _ _ _ _ _ _ _ _ _ _ _ _ _ _ _ _ _ _ _ _ _ _ _ _ _ _ _ _ _ _ _ _ _ _ _ _ _ _ _ _ _ _ _ _ _ _ _ _ _ _ _ _ _ _


set_option maxHeartbeats 40000000 in
set_option maxRecDepth 100000 in
theorem tail28_23 (s : List Nat) (x : Cx) (f0 : Nat → Value) (cs ca n m r so cso : Nat) (A0 : Nat → Int) (T0 : Nat → Nat) (B w0 : World) (O P2 : List Nat) (P : Ending → World → Prop) (hc : TC s x cs ca n) (ht : TM s x n m r so cso) (hgs : Hid (x.gs < B.heap.size))
    (HW : Hid (IW s x f0 (fun i => .int .i32 (Sais.c s i : Nat)) B A0 T0 w0)) (HP2 : Hid (Sais.AllL s P2)) (HPw : Hid (P2.Pairwise (Sais.lt s))) (HPl : Hid (P2.length = m)) (HOl : Hid (∀ y, y < m → O.getD y 0 < m)) (HPO : Hid (∀ y, y < m → P2.getD y 0 = (Sais.P1 s).getD (O.getD y 0) 0))
    (HA1 : Hid (∀ t, t < m → A0 (r + t) = ((Sais.P1 s).getD t 0 : Nat))) (HA2 : Hid (∀ y, y < m → A0 y = (O.getD y 0 : Nat)))
    (hP : Hid (∀ T' w', IW s x f0 (fun i => .int .i32 (Sais.c s i : Nat)) B (fun y => (Sais.ux s (Sais.eP s P2) y : Int)) T' w' → P (.returned (.tuple #[])) w'))
    (t2 t3 t4 t5 t6 t7 t9 t10 t12 t14 t15 t17 t18 t19 t20 t21 t22 t23 t25 t26 t28 t29 t30 t31 t32 t33 t34 t35 t36 t37 t38 t39 t40 t41 t42 t43 t44 t45 t46 t47 t48 t49 t50 t51 t52 t53 t54 t55 t56 t57 t58 t59 t60 t61 t62 t63 t64 t65 t66 t67 t68 t69 t70 t71 t72 t73 t74 t75 t76 t77 t78 t79 t80 t81 t82 t83 t84 t85 t86 t87 t88 t89 t90 t91 t92 t93 t94 t95 t96 t97 t98 t99 t100 t101 t102 t103 t104 t105 t106 t107 t108 t109 t110 t111 t112 t113 t114 t115 t116 t117 t118 t119 t120 t121 t122 t123 t124 t125 t126 t127 t128 t129 t130 t131 t132 t133 t134 t135 t136 t137 t138 t139 t140 t141 t142 t143 t144 t145 t146 t147 t148 t149 t150 t151 t152 t153 t154 t155 t156 t157 t158 t159 t160 t161 t162 t163 t164 t165 t166 t167 t168 t169 t170 t171 t172 t173 t174 t175 t176 t177 t178 t179 t180 t181 t182 t183 t184 t185 t186 t187 t188 t189 t190 t191 t192 t193 t194 t195 t196 t197 t198 t199 t200 t201 t202 t203 t204 t205 t206 t207 t208 t209 t210 t211 t212 t213 t214 t215 t216 t217 t218 t219 t220 t221 t222 t223 t224 t225 t226 t227 t228 t229 t230 t231 t232 t233 t234 t235 t236 t237 t238 t239 t240 t241 t242 t243 t244 t245 t246 t247 t248 t249 t250 t251 t252 t253 t254 t255 t256 t257 t258 t259 t260 t261 t262 t263 t264 t265 t266 t267 t268 t269 t270 t271 t272 t273 t274 t275 t276 t277 t278 t279 t280 t281 t282 t283 t284 t285 t286 t287 t288 t289 t290 t291 t292 t293 t294 t295 t296 t297 t298 t299 t300 t301 t302 t303 t304 t305 t306 t307 t308 t309 t310 t311 t312 t313 t314 t315 t316 t317 t318 t319 t320 t321 t322 t323 t324 t325 t326 t327 t328 t329 t330 t331 t332 t333 t334 t335 t336 t337 t338 t339 t340 t341 t342 t343 t344 t345 t346 t347 t348 t349 t350 t351 t352 t353 t354 t355 t356 t357 t358 t359 t360 t361 t362 t363 t364 t365 t366 t367 t368 t369 t370 t371 t372 t373 t374 t375 t376 t377 t378 t379 t380 t381 t382 t383 t384 t385 t386 t387 t388 t389 t390 t391 t392 t393 t394 : Value) :
    Code.wp Try.prog (dropS 28 (Try.f23.body.getD .skip)) (bodyPost Try.prog Try.f23 P) ⟨#[.slice (some ⟨x.gs, x.os, none⟩) n cs, .slice (some ⟨x.ga, x.oa, none⟩) n ca, t2, t3, t4, t5, t6, t7, .int .i64 n, t9, t10, .slice (some ⟨x.gm, 0, none⟩) n n, t12, .pointer (some ⟨x.lb, x.lo, none⟩), t14, t15, .int .i64 m, t17, t18, t19, t20, t21, t22, t23, .slice (some ⟨x.ga, so, none⟩) m cso, t25, t26, .slice (some ⟨x.ga, x.oa, none⟩) m ca, t28, t29, t30, t31, t32, t33, t34, t35, t36, t37, t38, t39, t40, t41, t42, t43, t44, t45, t46, t47, t48, t49, t50, t51, t52, t53, t54, t55, t56, t57, t58, t59, t60, t61, t62, t63, t64, t65, t66, t67, t68, t69, t70, t71, t72, t73, t74, t75, t76, t77, t78, t79, t80, t81, t82, t83, t84, t85, t86, t87, t88, t89, t90, t91, t92, t93, t94, t95, t96, t97, t98, t99, t100, t101, t102, t103, t104, t105, t106, t107, t108, t109, t110, t111, t112, t113, t114, t115, t116, t117, t118, t119, t120, t121, t122, t123, t124, t125, t126, t127, t128, t129, t130, t131, t132, t133, t134, t135, t136, t137, t138, t139, t140, t141, t142, t143, t144, t145, t146, t147, t148, t149, t150, t151, t152, t153, t154, t155, t156, t157, t158, t159, t160, t161, t162, t163, t164, t165, t166, t167, t168, t169, t170, t171, t172, t173, t174, t175, t176, t177, t178, t179, t180, t181, t182, t183, t184, t185, t186, t187, t188, t189, t190, t191, t192, t193, t194, t195, t196, t197, t198, t199, t200, t201, t202, t203, t204, t205, t206, t207, t208, t209, t210, t211, t212, t213, t214, t215, t216, t217, t218, t219, t220, t221, t222, t223, t224, t225, t226, t227, t228, t229, t230, t231, t232, t233, t234, t235, t236, t237, t238, t239, t240, t241, t242, t243, t244, t245, t246, t247, t248, t249, t250, t251, t252, t253, t254, t255, t256, t257, t258, t259, t260, t261, t262, t263, t264, t265, t266, t267, t268, t269, t270, t271, t272, t273, t274, t275, t276, t277, t278, t279, t280, t281, t282, t283, t284, t285, t286, t287, t288, t289, t290, t291, t292, t293, t294, t295, t296, t297, t298, t299, t300, t301, t302, t303, t304, t305, t306, t307, t308, t309, t310, t311, t312, t313, t314, t315, t316, t317, t318, t319, t320, t321, t322, t323, t324, t325, t326, t327, t328, t329, t330, t331, t332, t333, t334, t335, t336, t337, t338, t339, t340, t341, t342, t343, t344, t345, t346, t347, t348, t349, t350, t351, t352, t353, t354, t355, t356, t357, t358, t359, t360, t361, t362, t363, t364, t365, t366, t367, t368, t369, t370, t371, t372, t373, t374, t375, t376, t377, t378, t379, t380, t381, t382, t383, t384, t385, t386, t387, t388, t389, t390, t391, t392, t393, t394], []⟩ w0 := by
  have HC := hide hc
  have hn2 := hc.hn2
  have hn := hc.hn
  have hk := hc.hk
  have hcs := hc.hcs
  have hcm := hc.hcm
  have hca := hc.hca
  have hcm2 := hc.hcm2
  have HN := hide hc.hnn
  have HO := hide hc.ho
  clear hc
  have HTM := hide ht
  have hr := ht.hr
  have hcso := ht.hcso
  have hcso2 := ht.hcso2
  have hm2 : 2 * m ≤ n := by have := Sais.P1_half (s := s); rw [ht.hmm, HN.out] at this; exact this
  have HM := hide ht.hmm
  have HSo := hide ht.hso
  clear ht
  conv => arg 2; whnf
  go_wp2_with fail
  go_loopw [328] (fun v wr => ∃ (i : Nat) (A : Nat → Int), i ≤ m ∧ v = .int .i64 (i : Nat) ∧ IW s x f0 (fun i => .int .i32 (Sais.c s i : Nat)) B A T0 wr ∧ (∀ t, t < m → A (r + t) = ((Sais.P1 s).getD t 0 : Nat)) ∧ (∀ y, y < i → A y = (P2.getD y 0 : Nat)) ∧ (∀ y, i ≤ y → y < m → A y = (O.getD y 0 : Nat))) (fun v _ => m - (intOf v).toNat)
  case atStart => exact ⟨0, A0, Nat.zero_le _, rfl, HW.out, HA1.out, fun y hy => by omega, fun y _ hy => HA2.out y hy⟩
  case round =>
    clear HW HA1 HA2
    obtain ⟨i, A, hi, rfl, hW, hA1, hA2, hA3⟩ := hrel
    have HW := hide hW
    have HA1 := hide hA1
    have HA2 := hide hA2
    have HA3 := hide hA3
    clear hW hA1 hA2 hA3
    by_cases hlt : i < m
    · obtain rfl : so = x.oa + r := HSo.out (by omega)
      have c1 := HW.out.cellA HO.out (i := i) (by rw [HN.out]; omega)
      rw [HA3.out i (Nat.le_refl _) hlt] at c1
      have hq := HOl.out i hlt
      have hpo := HPO.out i hlt
      obtain ⟨q, hqe⟩ : ∃ q, O.getD i 0 = q := ⟨_, rfl⟩
      rw [hqe] at c1 hq hpo
      have c2 := HW.out.cellO HO.out (o := x.oa + r + q) (r + q) (by rw [HN.out]; omega) (by omega)
      rw [HA1.out q hq, ← hpo] at c2
      obtain ⟨p, hp⟩ : ∃ p, P2.getD i 0 = p := ⟨_, rfl⟩
      rw [hp] at c2
      have c3 := HW.out.sa.frozen (x.oa + i)
      have N1 := hide (HW.out.setO HO.out (o := x.oa + i) i (by rw [HN.out]; omega) rfl (p : Int))
      have NA1 : Hid (∀ t, t < m → (fun y => if y = i then (p : Int) else A y) (r + t) = ((Sais.P1 s).getD t 0 : Nat)) := fun t ht => by
        show (if r + t = i then (p : Int) else A (r + t)) = _
        rw [if_neg (by omega)]; exact HA1.out t ht
      have NA2 : Hid (∀ y, y < i + 1 → (fun y => if y = i then (p : Int) else A y) y = (P2.getD y 0 : Nat)) := fun y hy => by
        show (if y = i then (p : Int) else A y) = _
        by_cases e : y = i
        · rw [if_pos e, e, hp]
        · rw [if_neg e]; exact HA2.out y (by omega)
      have NA3 : Hid (∀ y, i + 1 ≤ y → y < m → (fun y => if y = i then (p : Int) else A y) y = (O.getD y 0 : Nat)) := fun y h1 h2 => by
        show (if y = i then (p : Int) else A y) = _
        rw [if_neg (by omega)]; exact HA3.out y (by omega) h2
      have eb1 : (q : Int) < (m : Int) := by omega
      have eb2 : (i : Int) < (m : Int) := by omega
      clear HW HA1 HA2 HA3 hqe hpo hp
      go_wp2_with fail
      go_roundw
      case rel => exact ⟨i + 1, _, by omega, by go_num, N1.out, NA1.out, NA2.out, NA3.out⟩
      case measure => simp [intOf]; omega
    · obtain rfl : m = i := by omega
      clear hlt
      repeat (fail_if_success (refine (id : Hid (Code.wp _ (Code.seq (Code.seq (Code.region 81 _ _) _) _) _ _ _) → _) ?_)); (first | go_values | go_skip | go_guarded | go_step | go_upon | go_back | (simp only [Int.not_lt, Int.not_le] at *; go_simp))
      exact tail29_23 s x f0 cs ca n m A T0 B wr P2 P HC.out hgs (by omega) HW HP2 HPw HPl HA2 hP _ _ _ _ _ _ _ _ _ _ _ _ _ _ _ _ _ _ _ _ _ _ _ _ _ _ _ _ _ _ _ _ _ _ _ _ _ _ _ _ _ _ _ _ _ _ _ _ _ _ _ _ _ _ _ _ _ _ _ _ _ _ _ _ _ _ _ _ _ _ _ _ _ _ _ _ _ _ _ _ _ _ _ _ _ _ _ _ _ _ _ _ _ _ _ _ _ _ _ _ _ _ _ _ _ _ _ _ _ _ _ _ _ _ _ _ _ _ _ _ _ _ _ _ _ _ _ _ _ _ _ _ _ _ _ _ _ _ _ _ _ _ _ _ _ _ _ _ _ _ _ _ _ _ _ _ _ _ _ _ _ _ _ _ _ _ _ _ _ _ _ _ _ _ _ _ _ _ _ _ _ _ _ _ _ _ _ _ _ _ _ _ _ _ _ _ _ _ _ _ _ _ _ _ _ _ _ _ _ _ _ _ _ _ _ _ _ _ _ _ _ _ _ _ _ _ _ _ _ _ _ _ _ _ _ _ _ _ _ _ _ _ _ _ _ _ _ _ _ _ _ _ _ _ _ _ _ _ _ _ _ _ _ _ _ _ _ _ _ _ _ _ _ _ _ _ _ _ _ _ _ _ _ _ _ _ _ _ _ _ _ _ _ _ _ _ _ _ _ _ _ _ _ _ _ _ _ _ _ _ _ _ _ _ _ _ _ _ _ _ _ _ _ _ _ _ _ _ _ _ _ _ _ _ _ _ _ _ _ _ _ _ _ _ _ _ _ _ _ _ _ _ _ _ _ _ _ _ _ _ _ _ _ _ _ _ _ _ _ _ _ _ _ _ _ _ _ _ _ _ _ _ _ _ _ _ _ _ _


set_option maxHeartbeats 40000000 in
set_option maxRecDepth 100000 in
theorem tail26_23 (s : List Nat) (x : Cx) (f0 : Nat → Value) (cs ca n m r so cso : Nat) (A0 : Nat → Int) (T0 : Nat → Nat) (B w0 : World) (O : List Nat) (P : Ending → World → Prop) (hc : TC s x cs ca n) (ht : TM s x n m r so cso) (hgs : Hid (x.gs < B.heap.size))
    (HW : Hid (IW s x f0 (fun i => .int .i32 (Sais.c s i : Nat)) B A0 T0 w0)) (HSA : Hid (Sais.IsSA (Sais.red s) O)) (HA2 : Hid (∀ y, y < m → A0 y = (O.getD y 0 : Nat)))
    (hP : Hid (∀ SA T' w', Sais.IsSA s SA → IW s x f0 (fun i => .int .i32 (Sais.c s i : Nat)) B (fun y => (SA.getD y 0 : Int)) T' w' → P (.returned (.tuple #[])) w'))
    (t2 t3 t4 t5 t6 t7 t9 t10 t12 t14 t15 t17 t18 t19 t20 t21 t22 t23 t25 t26 t28 t29 t30 t31 t32 t33 t34 t35 t36 t37 t38 t39 t40 t41 t42 t43 t44 t45 t46 t47 t48 t49 t50 t51 t52 t53 t54 t55 t56 t57 t58 t59 t60 t61 t62 t63 t64 t65 t66 t67 t68 t69 t70 t71 t72 t73 t74 t75 t76 t77 t78 t79 t80 t81 t82 t83 t84 t85 t86 t87 t88 t89 t90 t91 t92 t93 t94 t95 t96 t97 t98 t99 t100 t101 t102 t103 t104 t105 t106 t107 t108 t109 t110 t111 t112 t113 t114 t115 t116 t117 t118 t119 t120 t121 t122 t123 t124 t125 t126 t127 t128 t129 t130 t131 t132 t133 t134 t135 t136 t137 t138 t139 t140 t141 t142 t143 t144 t145 t146 t147 t148 t149 t150 t151 t152 t153 t154 t155 t156 t157 t158 t159 t160 t161 t162 t163 t164 t165 t166 t167 t168 t169 t170 t171 t172 t173 t174 t175 t176 t177 t178 t179 t180 t181 t182 t183 t184 t185 t186 t187 t188 t189 t190 t191 t192 t193 t194 t195 t196 t197 t198 t199 t200 t201 t202 t203 t204 t205 t206 t207 t208 t209 t210 t211 t212 t213 t214 t215 t216 t217 t218 t219 t220 t221 t222 t223 t224 t225 t226 t227 t228 t229 t230 t231 t232 t233 t234 t235 t236 t237 t238 t239 t240 t241 t242 t243 t244 t245 t246 t247 t248 t249 t250 t251 t252 t253 t254 t255 t256 t257 t258 t259 t260 t261 t262 t263 t264 t265 t266 t267 t268 t269 t270 t271 t272 t273 t274 t275 t276 t277 t278 t279 t280 t281 t282 t283 t284 t285 t286 t287 t288 t289 t290 t291 t292 t293 t294 t295 t296 t297 t298 t299 t300 t301 t302 t303 t304 t305 t306 t307 t308 t309 t310 t311 t312 t313 t314 t315 t316 t317 t318 t319 t320 t321 t322 t323 t324 t325 t326 t327 t328 t329 t330 t331 t332 t333 t334 t335 t336 t337 t338 t339 t340 t341 t342 t343 t344 t345 t346 t347 t348 t349 t350 t351 t352 t353 t354 t355 t356 t357 t358 t359 t360 t361 t362 t363 t364 t365 t366 t367 t368 t369 t370 t371 t372 t373 t374 t375 t376 t377 t378 t379 t380 t381 t382 t383 t384 t385 t386 t387 t388 t389 t390 t391 t392 t393 t394 : Value) :
    Code.wp Try.prog (dropS 26 (Try.f23.body.getD .skip)) (bodyPost Try.prog Try.f23 P) ⟨#[.slice (some ⟨x.gs, x.os, none⟩) n cs, .slice (some ⟨x.ga, x.oa, none⟩) n ca, t2, t3, t4, t5, t6, t7, .int .i64 n, t9, t10, .slice (some ⟨x.gm, 0, none⟩) n n, t12, .pointer (some ⟨x.lb, x.lo, none⟩), t14, t15, .int .i64 m, t17, t18, t19, t20, t21, t22, t23, .slice (some ⟨x.ga, so, none⟩) m cso, t25, t26, .slice (some ⟨x.ga, x.oa, none⟩) m ca, t28, t29, t30, t31, t32, t33, t34, t35, t36, t37, t38, t39, t40, t41, t42, t43, t44, t45, t46, t47, t48, t49, t50, t51, t52, t53, t54, t55, t56, t57, t58, t59, t60, t61, t62, t63, t64, t65, t66, t67, t68, t69, t70, t71, t72, t73, t74, t75, t76, t77, t78, t79, t80, t81, t82, t83, t84, t85, t86, t87, t88, t89, t90, t91, t92, t93, t94, t95, t96, t97, t98, t99, t100, t101, t102, t103, t104, t105, t106, t107, t108, t109, t110, t111, t112, t113, t114, t115, t116, t117, t118, t119, t120, t121, t122, t123, t124, t125, t126, t127, t128, t129, t130, t131, t132, t133, t134, t135, t136, t137, t138, t139, t140, t141, t142, t143, t144, t145, t146, t147, t148, t149, t150, t151, t152, t153, t154, t155, t156, t157, t158, t159, t160, t161, t162, t163, t164, t165, t166, t167, t168, t169, t170, t171, t172, t173, t174, t175, t176, t177, t178, t179, t180, t181, t182, t183, t184, t185, t186, t187, t188, t189, t190, t191, t192, t193, t194, t195, t196, t197, t198, t199, t200, t201, t202, t203, t204, t205, t206, t207, t208, t209, t210, t211, t212, t213, t214, t215, t216, t217, t218, t219, t220, t221, t222, t223, t224, t225, t226, t227, t228, t229, t230, t231, t232, t233, t234, t235, t236, t237, t238, t239, t240, t241, t242, t243, t244, t245, t246, t247, t248, t249, t250, t251, t252, t253, t254, t255, t256, t257, t258, t259, t260, t261, t262, t263, t264, t265, t266, t267, t268, t269, t270, t271, t272, t273, t274, t275, t276, t277, t278, t279, t280, t281, t282, t283, t284, t285, t286, t287, t288, t289, t290, t291, t292, t293, t294, t295, t296, t297, t298, t299, t300, t301, t302, t303, t304, t305, t306, t307, t308, t309, t310, t311, t312, t313, t314, t315, t316, t317, t318, t319, t320, t321, t322, t323, t324, t325, t326, t327, t328, t329, t330, t331, t332, t333, t334, t335, t336, t337, t338, t339, t340, t341, t342, t343, t344, t345, t346, t347, t348, t349, t350, t351, t352, t353, t354, t355, t356, t357, t358, t359, t360, t361, t362, t363, t364, t365, t366, t367, t368, t369, t370, t371, t372, t373, t374, t375, t376, t377, t378, t379, t380, t381, t382, t383, t384, t385, t386, t387, t388, t389, t390, t391, t392, t393, t394], []⟩ w0 := by
  have HC := hide hc
  have hn2 := hc.hn2
  have hn := hc.hn
  have hk := hc.hk
  have hcs := hc.hcs
  have hcm := hc.hcm
  have hca := hc.hca
  have hcm2 := hc.hcm2
  have HN := hide hc.hnn
  have HO := hide hc.ho
  clear hc
  have HTM := hide ht
  have hr := ht.hr
  have hcso := ht.hcso
  have hcso2 := ht.hcso2
  have hm2 : 2 * m ≤ n := by have := Sais.P1_half (s := s); rw [ht.hmm, HN.out] at this; exact this
  have HM := hide ht.hmm
  have HSo := hide ht.hso
  clear ht
  conv => arg 2; whnf
  go_wp2_with fail
  go_loopw [25, 30] (fun v25 v30 wr => ∃ (i : Nat) (A : Nat → Int), 1 ≤ i ∧ i ≤ n ∧ v25 = .int .i64 (Sais.tl s i : Nat) ∧ v30 = .int .i64 (i : Nat) ∧ IW s x f0 (fun i => .int .i32 (Sais.c s i : Nat)) B A T0 wr ∧ (∀ t, t < Sais.tl s i → A (r + t) = ((Sais.P1 s).getD t 0 : Nat)) ∧ (∀ y, y < m → A y = (O.getD y 0 : Nat))) (fun _ v _ => n - (intOf v).toNat)
  case atStart =>
    have e1 : Sais.tl s 1 = 0 := Sais.tl_no (by simp [Sais.lms])
    exact ⟨1, A0, Nat.le_refl _, by omega, by rw [e1]; rfl, rfl, HW.out, fun t ht => by omega, HA2.out⟩
  case round =>
    clear HW HA2
    obtain ⟨i, A, hi1, hi, rfl, rfl, hW, hA1, hA2⟩ := hrel
    have HW := hide hW
    have HA1 := hide hA1
    have HA2 := hide hA2
    clear hW hA1 hA2
    by_cases hlt : i < n
    · have L21 := hide (lms21 s x.gm i wr (by rw [HN.out]; exact hlt) (by rw [HN.out]; exact hn) HW.out.sm)
      rw [HN.out] at L21
      cases hl : Sais.lms s i with
      | true =>
        rw [hl] at L21
        have hj := Sais.tl_lt hl
        have hjy := Sais.tl_yes hl
        have hja := Sais.tl_at hl
        rw [HM.out] at hj
        obtain rfl : so = x.oa + r := HSo.out (by omega)
        obtain ⟨j, hje⟩ : ∃ j, Sais.tl s i = j := ⟨_, rfl⟩
        rw [hje] at hj hjy hja HA1 ⊢
        have hjg : (Sais.P1 s).getD j 0 = i := by rw [List.getD_eq_getElem?_getD, hja]; rfl
        have c2 := HW.out.cellO HO.out (o := x.oa + r + j) (r + j) (by rw [HN.out]; omega) (by omega)
        have c3 := HW.out.sa.frozen (x.oa + r + j)
        have N1 := hide (HW.out.setO HO.out (o := x.oa + r + j) (r + j) (by rw [HN.out]; omega) (by omega) (i : Int))
        have NA1 : Hid (∀ t, t < Sais.tl s (i + 1) → (fun y => if y = r + j then (i : Int) else A y) (r + t) = ((Sais.P1 s).getD t 0 : Nat)) := fun t ht => by
          show (if r + t = r + j then (i : Int) else A (r + t)) = _
          by_cases e : t = j
          · rw [if_pos (by omega), e, hjg]
          · rw [if_neg (by omega)]; exact HA1.out t (by omega)
        have NA2 : Hid (∀ y, y < m → (fun y => if y = r + j then (i : Int) else A y) y = (O.getD y 0 : Nat)) := fun y hy => by
          show (if y = r + j then (i : Int) else A y) = _
          rw [if_neg (by omega)]; exact HA2.out y hy
        have HJ := hide hjy
        have eb1 : (j : Int) < (m : Int) := by omega
        clear HW HA1 HA2 hjy hja hjg hje hl
        go_wp2_with fail
        refine (L21.out).mono ?_
        rintro e w6 ⟨rfl, rfl⟩
        go_wp2_with fail
        go_roundw
        case rel => exact ⟨i + 1, _, by omega, by omega, by rw [HJ.out]; go_num, by go_num, N1.out, NA1.out, NA2.out⟩
        case measure => simp [intOf]; omega
      | false =>
        rw [hl] at L21
        have HJ := hide (Sais.tl_no hl)
        rw [← HJ.out] at HA1
        clear hl
        go_wp2_with fail
        refine (L21.out).mono ?_
        rintro e w6 ⟨rfl, rfl⟩
        go_wp2_with fail
        go_roundw
        case rel => exact ⟨i + 1, _, by omega, by omega, by rw [HJ.out], by go_num, HW.out, HA1.out, HA2.out⟩
        case measure => simp [intOf]; omega
    · obtain rfl : n = i := by omega
      clear hlt
      have e1 : Sais.tl s n = m := by rw [← HM.out]; exact Sais.tl_ge (by rw [HN.out]; exact Nat.le_refl _)
      rw [e1] at HA1
      obtain ⟨g1, g2⟩ := Sais.lift_order HSA.out
      have hlen : O.length = m := by rw [HSA.out.len, Sais.red_len, HM.out]
      have G1 := hide g1
      have G2 := hide g2
      have G3 : Hid ((O.map (fun i => (Sais.P1 s).getD i 0)).length = m) := by show _ = _; rw [List.length_map, hlen]
      have G4 : Hid (∀ y, y < m → O.getD y 0 < m) := fun y hy => by have := HSA.out.lt' (y := y) (by rw [Sais.red_len, HM.out]; exact hy); rw [Sais.red_len, HM.out] at this; exact this
      have G5 : Hid (∀ y, y < m → (O.map (fun i => (Sais.P1 s).getD i 0)).getD y 0 = (Sais.P1 s).getD (O.getD y 0) 0) := fun y hy => by
        rw [Sais.getD_get (by rw [List.length_map, hlen]; exact hy), Sais.getD_get (l := O) (by rw [hlen]; exact hy), List.getElem_map]
      have G6 : Hid (∀ T' w', IW s x f0 (fun i => .int .i32 (Sais.c s i : Nat)) B (fun y => (Sais.ux s (Sais.eP s (O.map (fun i => (Sais.P1 s).getD i 0))) y : Int)) T' w' → P (.returned (.tuple #[])) w') := fun T' w' h => hP.out _ T' w' (Sais.final_order HSA.out) h
      clear g1 g2 hlen e1
      repeat (fail_if_success (refine (id : Hid (Code.wp _ (Code.seq (Code.seq (Code.region 76 _ _) _) _) _ _ _) → _) ?_)); (first | go_values | go_skip | go_guarded | go_step | go_upon | go_back | (simp only [Int.not_lt, Int.not_le] at *; go_simp))
      exact tail28_23 s x f0 cs ca n m r so cso A T0 B wr O _ P HC.out HTM.out hgs HW G1 G2 G3 G4 G5 HA1 HA2 G6 _ _ _ _ _ _ _ _ _ _ _ _ _ _ _ _ _ _ _ _ _ _ _ _ _ _ _ _ _ _ _ _ _ _ _ _ _ _ _ _ _ _ _ _ _ _ _ _ _ _ _ _ _ _ _ _ _ _ _ _ _ _ _ _ _ _ _ _ _ _ _ _ _ _ _ _ _ _ _ _ _ _ _ _ _ _ _ _ _ _ _ _ _ _ _ _ _ _ _ _ _ _ _ _ _ _ _ _ _ _ _ _ _ _ _ _ _ _ _ _ _ _ _ _ _ _ _ _ _ _ _ _ _ _ _ _ _ _ _ _ _ _ _ _ _ _ _ _ _ _ _ _ _ _ _ _ _ _ _ _ _ _ _ _ _ _ _ _ _ _ _ _ _ _ _ _ _ _ _ _ _ _ _ _ _ _ _ _ _ _ _ _ _ _ _ _ _ _ _ _ _ _ _ _ _ _ _ _ _ _ _ _ _ _ _ _ _ _ _ _ _ _ _ _ _ _ _ _ _ _ _ _ _ _ _ _ _ _ _ _ _ _ _ _ _ _ _ _ _ _ _ _ _ _ _ _ _ _ _ _ _ _ _ _ _ _ _ _ _ _ _ _ _ _ _ _ _ _ _ _ _ _ _ _ _ _ _ _ _ _ _ _ _ _ _ _ _ _ _ _ _ _ _ _ _ _ _ _ _ _ _ _ _ _ _ _ _ _ _ _ _ _ _ _ _ _ _ _ _ _ _ _ _ _ _ _ _ _ _ _ _ _ _ _ _ _ _ _ _ _ _ _ _ _ _ _ _ _ _ _ _ _ _ _ _ _ _ _ _ _ _ _ _ _ _ _ _ _ _ _ _ _ _ _ _ _ _

end Go.Proofs.Qxb6606288a

