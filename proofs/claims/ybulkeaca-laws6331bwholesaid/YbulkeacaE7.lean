import Derived.Test.YbulkeacaE2
import Derived.Test.YbulkeacaE3
import Derived.Test.YbulkeacaE4
import Derived.Test.YbulkeacaE5
import Derived.Test.YbulkeacaE6
import Derived.Test.YbulkeacaB10
import Derived.Test.YbulkeacaB18
import Derived.Test.YbulkeacaBm
namespace Go.Proofs.Ybulkeaca.CW
open Go.RowKit Go.Proofs.Ybulkeaca.Kit

theorem then_normal {next : Act → World → Prop} {Q : Exit → Act → World → Prop} {a : Act} {w : World} (h : next a w) : Exit.then next Q .normal a w := h
/-- What stands between two steps. -/
def Law (w0 : World) (P : Nat → Nat) (bS bA mb lrb pb Bd : Nat) (vsts vp : Value) (w : World) : Prop :=
  ∃ (D : Desc) (M : Mod) (pts : Nat → Nat) (V : Nat → Tri) (cs : List Value) (v7 : Value), Holds w0 w D ∧ RealD D M P pts mb ∧ ModD D M bS bA vsts V ∧ WF M ∧ WF2 M ∧ NE M ∧ D .lr = some (lrb, row cs 70) ∧ cs[7]? = some v7 ∧ cs[19]? = some (.map (some mb)) ∧ D .pool = some (pb, row (rowF 6 fun f => pt (P f)) 27) ∧ Sl D .ptrs 88 1 vp (rowF M.ns fun s => pt (pts s)) ∧ M.ns ≤ Bd ∧ ∀ s, M.ln s ≤ Bd
theorem usedR_notLaw {t : Tag} (h : usedR t = true) : isLaw t = false := by cases t <;> simp_all [usedR, isLaw]
theorem usedM_notReal {t : Tag} (h : usedM t = true) : isReal t = false := by cases t <;> simp_all [usedM, isReal]
theorem usedM_noFile {t : Tag} (h : usedM t = true) (f : Nat) : t ≠ .file f := by rintro rfl; simp [usedM] at h
theorem legsR_len (pts : Nat → Nat) : ∀ ls : List Leg, (legsR pts ls).length = ls.length * 5
  | [] => by simp [legsR]
  | l :: ls => by
    have := legsR_len pts ls
    simp only [legsR] at this
    simp [legsR, legR, this]; omega
theorem seq7 : inBlock (B3 7) = (Code.seq (S7 0) (Code.seq (S7 1) (Code.seq (S7 2) (Code.seq (S7 3) (Code.seq (S7 4) (Code.seq (S7 5) (Code.seq (B3 10) (Code.seq (S7 7) (Code.seq (B3 18) (Code.seq (S7 9) (Code.seq (S7 10) (Code.seq (S7 11) (Code.seq (S7 12) (Code.seq (S7 13) (Code.seq (S7 14) (Code.seq (S7 15) (Code.seq (S7 16) (Code.seq (S7 17) (Code.seq (S7 18) (Code.seq (S7 19) (Code.seq (S7 20) (Code.seq (S7 21) (Code.seq (S7 22) (Code.seq (S7 23) (Code.seq (S7 24) (Cd3 702)))))))))))))))))))))))))) := by kernel_rfl
set_option maxRecDepth 100000 in
set_option maxHeartbeats 20000000 in
theorem step7 {Q : Exit → Act → World → Prop} {w0 w : World} {P L : Nat → Nat} {U : Nat → Int} {bS bA mb lrb pb sb0 so N sc k n lc Bd f : Nat} {la : Option Addr} {mk rc li : Int} {vsts vp v2 : Value} {u0 u1 u3 u4 u5 u7 u11 u14 u15 u16 u17 u18 u19 u20 u21 u22 u23 u24 u25 u26 u27 u28 u29 u30 u31 u32 u33 u34 u35 u36 u37 u38 u39 u40 u41 u42 u43 u44 u45 u46 u47 u48 u49 u50 u51 u52 u53 u54 u55 u56 u57 u58 u59 u60 u61 u62 u63 u64 u65 u66 u67 u68 u69 u70 u71 u72 u73 u74 u75 u76 u77 u78 u79 u80 u81 u82 u83 u84 u85 u86 u87 u88 u89 u90 u91 u92 u93 u94 u95 u97 u99 u100 u101 u102 u103 u104 u105 u106 u107 u108 u109 u110 u111 u112 u113 u114 u115 u116 u117 u118 u119 u120 u121 u122 u123 u124 u125 u126 u127 u128 u129 u130 u131 u132 u133 u134 u135 u136 u137 u138 u139 u140 u141 u142 u143 u144 u145 u146 u147 u148 u149 u150 u151 u152 u153 u154 u155 u156 u157 u158 u159 u160 u161 u162 u163 u164 u165 u166 u167 u168 u169 u170 u171 u172 u173 u174 u175 u176 u177 u178 u179 u180 u181 u182 u183 u184 u185 u186 u187 u188 u189 u190 u191 u192 u193 u194 u195 u196 u197 u198 u199 u200 u201 u202 u203 u204 u205 u206 u207 u208 u209 u210 u211 u212 u213 u214 u215 u216 u217 u218 u219 u220 u221 u222 u223 u224 u225 u226 u227 u228 u229 u230 u231 u232 u233 u234 u235 u236 u237 u238 u239 u240 u241 u242 u243 u244 u245 u246 u247 u248 u249 u250 u251 u252 u253 u254 u255 u256 u257 u258 u259 u260 u261 u262 u263 u264 u265 u266 u267 u268 u269 u270 u271 u272 u273 u274 u275 u276 u277 u278 u279 u280 u281 u282 u283 u284 u285 u286 u287 u288 u289 u290 u291 u292 u293 u294 u295 u296 u297 u298 u299 u300 u301 u302 u303 u304 u305 u306 u307 u308 u309 u310 u311 u312 u313 u314 u315 u316 u317 u318 u319 u320 u321 u322 u323 u324 u325 u326 u327 u328 u329 u330 u331 u332 u333 u334 u335 u336 u337 u338 u339 u340 u341 u342 u343 u344 u345 u346 u347 u348 u349 u350 u351 u352 u353 u354 u355 u356 u357 u358 u359 u360 u361 u362 u363 u364 u365 u366 u367 u368 u369 u370 u371 u372 u373 u374 u375 u376 u377 u378 u379 u380 u381 u382 u383 u384 u385 u386 u387 u388 u389 u390 u391 u392 u393 u394 u395 u396 u397 u398 u399 u400 u401 u402 u403 u404 u405 u406 u407 u408 u409 u410 u411 u412 u413 u414 u415 u416 u417 u418 u419 u420 u421 u422 u423 u424 u425 u426 u427 u428 u429 u430 u431 u432 u433 u434 u435 u436 u437 u438 u439 u440 u441 u442 u443 u444 u445 u446 u447 u448 u449 u450 u451 u452 u453 u454 u455 u456 u457 u458 u459 u460 u461 u462 u463 u464 u465 u466 u467 u468 u469 u470 u471 u472 u473 u474 u475 u476 u477 u478 u479 u480 u481 u482 u483 u484 u485 u486 u487 u488 u489 u490 u491 u492 u493 u494 u495 u496 u497 u498 u499 u500 u501 u502 u503 u504 u505 u506 u507 u508 u509 u510 u511 u512 u513 u514 u515 u516 u517 u518 u519 u520 u521 u522 u523 u524 u525 u526 u527 u528 u529 u530 u531 u532 u533 u534 u535 u536 u537 u538 u539 u540 u541 u542 u543 u544 u545 u546 u547 u548 u549 u550 u551 u552 u553 u554 u555 u556 u557 u558 u559 u560 u561 u562 u563 u564 u565 u566 u567 u568 u569 u570 u571 u572 u573 u574 u575 u576 u577 u578 u579 u580 u581 u582 u583 u584 u585 u586 u587 u588 u589 u590 u591 u592 u593 u594 u595 u596 u597 u598 u599 u600 u601 u602 u603 u604 u605 u606 u607 u608 u609 u610 u611 u612 u613 u614 u615 u616 u617 u618 u619 u620 u621 u622 u623 u624 u625 u626 u627 u628 u629 u630 u631 u632 u633 u634 u635 u636 u637 u638 u639 u640 u641 u642 u643 u644 u645 u646 u647 u648 u649 u650 u651 u652 u653 u654 u655 u656 u657 u658 u659 u660 u661 u662 u663 u664 u665 u666 u667 u668 u669 u670 u671 u672 u673 u674 u675 u676 u677 u678 u679 u680 u681 u682 u683 u684 u685 u686 u687 u688 u689 u690 u691 u692 u693 u694 u695 u696 u697 u698 u699 u700 u701 u702 u703 u704 u705 u706 u707 u708 u709 u710 u711 u712 u713 u714 u715 u716 u717 u718 u719 u720 u721 u722 u723 u724 u725 u726 u727 u728 u729 u730 u731 u732 u733 u734 u735 u736 u737 u738 u739 u740 u741 u742 u743 u744 u745 u746 u747 u748 u749 u750 u751 u752 u753 u754 u755 u756 u757 u758 u759 u760 : Value}
    (hLaw : Law w0 P bS bA mb lrb pb Bd vsts vp w) (hBd : Bd + n ≤ 65536) (hk : k < N) (c0 : w.cell? ⟨sb0, so + k * 4, none⟩ = some (.slice la n lc)) (c1 : w.cell? ⟨sb0, so + k * 4 + 1, none⟩ = some (.int .u8 mk)) (c2 : w.cell? ⟨sb0, so + k * 4 + 2, none⟩ = some (.int .i32 rc)) (c3 : w.cell? ⟨sb0, so + k * 4 + 3, none⟩ = some (.int .i32 li))
    (hU : BytesAt w0 la n U) (hmod : ∀ i, i < n → (U i).tmod 6 = (L i : Int)) (hU0 : ∀ i, i < n → 0 ≤ U i ∧ U i ≤ 255) (hL6 : ∀ i, i < n → L i < 6) (hf : f < 6) (hm : mk.tmod 6 = f) (hm0 : 0 ≤ mk) (hm1 : mk ≤ 255) (r1 : -2147483648 ≤ rc) (r2 : rc ≤ 2147483647) (l1 : -2147483648 ≤ li) (l2 : li ≤ 2147483647)
    (hQ : ∀ {t2 t15 t16 t17 t18 t19 t20 t21 t22 t23 t24 t25 t26 t27 t28 t29 t30 t31 t32 t33 t34 t35 t36 t37 t38 t39 t40 t41 t42 t43 t44 t45 t46 t47 t100 t101 t102 t103 t104 t105 t106 t107 t108 t109 t110 t111 t112 t113 t114 t115 t116 t117 t118 t119 t120 t121 t122 t123 t124 t125 t126 t127 t128 t129 t130 t131 t132 t133 t134 t135 t136 t137 t138 t139 t140 t141 t142 t143 t144 t145 t146 t147 t148 t149 t150 t151 t152 t153 t154 t155 t156 t157 t158 t159 t160 t161 t162 t163 t164 t165 t166 t167 t168 t169 t170 t171 t172 t173 t174 t175 t176 t177 t178 t179 t180 t181 t182 t183 t184 t185 t186 t187 t188 t189 t190 t191 t192 t193 t194 t195 t196 t197 t198 t199 t200 t201 t202 t203 t204 t205 t206 t207 t208 t209 t210 t211 t212 t213 t214 t215 t216 t217 t218 t219 t220 t221 t222 t223 t224 t225 t226 t227 t228 t229 t230 t231 t232 t233 t234 t235 t236 t237 t238 t239 t240 t241 t242 t243 t244 t245 t246 t247 t248 t249 t250 t251 t252 t253 t254 t255 t256 t257 t258 t259 t260 t261 t262 t263 t264 t265 t266 t267 t268 t269 t270 t271 t272 t273 t274 t275 t276 t277 t278 t279 t280 t281 t282 t283 t284 t285 t286 t287 t288 t289 t290 t291 t292 t293 t294 t295 t296 t297 t298 t299 t300 t301 t302 t303 t304 t305 t306 t307 t308 t309 t310 t311 t312 t313 t314 t315 t316 t317 t318 t319 t320 t321 t322 t323 t324 t325 t326 t327 t328 t329 t330 t331 t332 t333 t334 t335 t336 t337 t338 t339 t340 t341 t342 t343 t344 t345 t346 t347 t348 t349 t350 t351 t352 t353 t354 t355 t356 t357 t358 t359 t360 t361 t362 t363 t364 t365 t366 t367 t368 t369 t370 t371 t372 t373 t374 t375 t376 t377 t378 t379 t380 t381 t382 t383 t384 t385 t386 t387 t388 t389 t390 t391 t392 t393 t394 t395 t396 t397 t398 t399 t400 t401 t402 t403 t404 t405 t406 t407 t408 t409 t410 t411 t412 t413 t414 t415 t416 t417 t418 t419 t420 t421 t422 t423 t424 t425 t426 t427 t428 t429 t430 t431 t432 t433 t434 t435 t436 t437 t438 t439 t440 t441 t442 t443 t444 t445 t446 t447 t448 t449 t450 t451 t452 t453 t454 t455 t456 t457 t458 t459 t460 t461 t462 t463 t464 t465 t466 t467 t468 t469 t470 t471 t472 t473 t474 t475 t476 t477 t478 t479 t480 t481 t482 t483 t484 t485 t486 t487 t488 t489 t490 t491 t492 t493 t494 t495 t496 t497 t498 t499 t500 t501 t502 t503 t504 t505 t506 t507 t508 t509 t510 t511 t512 t513 t514 t515 t516 t517 t518 t519 t520 t521 t522 t523 t524 t525 t526 t527 t528 t529 t530 t531 t532 t533 t534 t535 t536 t537 t538 t539 t540 t541 t542 t543 t544 t545 t546 t547 t548 t549 t550 t551 t552 t553 t554 t555 t556 t557 t558 t559 t560 t561 t562 t563 t564 t565 t566 t567 t568 t569 t570 t571 t572 t573 t574 t575 t576 t577 t578 t579 t580 t581 t582 t583 t584 t585 t586 t587 t588 t589 t590 t591 t592 t593 t594 t595 t596 t597 t598 t599 t600 t601 t602 t603 t604 t605 t606 t607 t608 t609 t610 t611 t612 t613 t614 t615 t616 t617 t618 t619 t620 t621 t622 t623 t624 t625 t626 t627 t628 t629 t630 t631 t632 t633 t634 t635 t636 t637 t638 t639 t640 t641 t642 t643 t644 t645 t646 t647 t648 t649 t650 t651 t652 t653 t654 t655 t656 t657 t658 t659 t660 t661 t662 t663 t664 t665 t666 t667 t668 t669 t670 t671 t672 t673 t674 t675 t676 t677 t678 t679 t680 t681 t682 t683 t684 t685 t686 t687 t688 t689 t690 t691 t692 t693 t694 t695 t696 t697 t698 t699 t700 t701 t702 t703 t704 t705 t706 t707 t708 t709 t710 t711 t712 t713 t714 t715 t716 t717 t718 t719 t720 t721 t722 t723 t724 t725 t726 t727 t728 t729 t730 t731 t732 t733 t734 t735 t736 t737 t738 t739 t740 t741 t742 t743 t744 t745 t746 t747 t748 t749 t750 t751 t752 t753 t754 t755 t756 t757 t758 t759 : Value} {w' : World} {vsts' vp' : Value}, Law w0 P bS bA mb lrb pb (Bd + n) vsts' vp' w' → Q .normal ⟨#[u0, u1, t2, u3, u4, u5, .slice (some ⟨pb, 0, none⟩) 6 6, u7, pt lrb, .slice (some ⟨bS, 0, none⟩) 6 6, .slice (some ⟨bA, 0, none⟩) 6 6, u11, vsts', vp', u14, t15, t16, t17, t18, t19, t20, t21, t22, t23, t24, t25, t26, t27, t28, t29, t30, t31, t32, t33, t34, t35, t36, t37, t38, t39, t40, t41, t42, t43, t44, t45, t46, t47, u48, u49, u50, u51, u52, u53, u54, u55, u56, u57, u58, u59, u60, u61, u62, u63, u64, u65, u66, u67, u68, u69, u70, u71, u72, u73, u74, u75, u76, u77, u78, u79, u80, u81, u82, u83, u84, u85, u86, u87, u88, u89, u90, u91, u92, u93, u94, u95, .slice (some ⟨sb0, so, none⟩) N sc, u97, vi k, u99, t100, t101, t102, t103, t104, t105, t106, t107, t108, t109, t110, t111, t112, t113, t114, t115, t116, t117, t118, t119, t120, t121, t122, t123, t124, t125, t126, t127, t128, t129, t130, t131, t132, t133, t134, t135, t136, t137, t138, t139, t140, t141, t142, t143, t144, t145, t146, t147, t148, t149, t150, t151, t152, t153, t154, t155, t156, t157, t158, t159, t160, t161, t162, t163, t164, t165, t166, t167, t168, t169, t170, t171, t172, t173, t174, t175, t176, t177, t178, t179, t180, t181, t182, t183, t184, t185, t186, t187, t188, t189, t190, t191, t192, t193, t194, t195, t196, t197, t198, t199, t200, t201, t202, t203, t204, t205, t206, t207, t208, t209, t210, t211, t212, t213, t214, t215, t216, t217, t218, t219, t220, t221, t222, t223, t224, t225, t226, t227, t228, t229, t230, t231, t232, t233, t234, t235, t236, t237, t238, t239, t240, t241, t242, t243, t244, t245, t246, t247, t248, t249, t250, t251, t252, t253, t254, t255, t256, t257, t258, t259, t260, t261, t262, t263, t264, t265, t266, t267, t268, t269, t270, t271, t272, t273, t274, t275, t276, t277, t278, t279, t280, t281, t282, t283, t284, t285, t286, t287, t288, t289, t290, t291, t292, t293, t294, t295, t296, t297, t298, t299, t300, t301, t302, t303, t304, t305, t306, t307, t308, t309, t310, t311, t312, t313, t314, t315, t316, t317, t318, t319, t320, t321, t322, t323, t324, t325, t326, t327, t328, t329, t330, t331, t332, t333, t334, t335, t336, t337, t338, t339, t340, t341, t342, t343, t344, t345, t346, t347, t348, t349, t350, t351, t352, t353, t354, t355, t356, t357, t358, t359, t360, t361, t362, t363, t364, t365, t366, t367, t368, t369, t370, t371, t372, t373, t374, t375, t376, t377, t378, t379, t380, t381, t382, t383, t384, t385, t386, t387, t388, t389, t390, t391, t392, t393, t394, t395, t396, t397, t398, t399, t400, t401, t402, t403, t404, t405, t406, t407, t408, t409, t410, t411, t412, t413, t414, t415, t416, t417, t418, t419, t420, t421, t422, t423, t424, t425, t426, t427, t428, t429, t430, t431, t432, t433, t434, t435, t436, t437, t438, t439, t440, t441, t442, t443, t444, t445, t446, t447, t448, t449, t450, t451, t452, t453, t454, t455, t456, t457, t458, t459, t460, t461, t462, t463, t464, t465, t466, t467, t468, t469, t470, t471, t472, t473, t474, t475, t476, t477, t478, t479, t480, t481, t482, t483, t484, t485, t486, t487, t488, t489, t490, t491, t492, t493, t494, t495, t496, t497, t498, t499, t500, t501, t502, t503, t504, t505, t506, t507, t508, t509, t510, t511, t512, t513, t514, t515, t516, t517, t518, t519, t520, t521, t522, t523, t524, t525, t526, t527, t528, t529, t530, t531, t532, t533, t534, t535, t536, t537, t538, t539, t540, t541, t542, t543, t544, t545, t546, t547, t548, t549, t550, t551, t552, t553, t554, t555, t556, t557, t558, t559, t560, t561, t562, t563, t564, t565, t566, t567, t568, t569, t570, t571, t572, t573, t574, t575, t576, t577, t578, t579, t580, t581, t582, t583, t584, t585, t586, t587, t588, t589, t590, t591, t592, t593, t594, t595, t596, t597, t598, t599, t600, t601, t602, t603, t604, t605, t606, t607, t608, t609, t610, t611, t612, t613, t614, t615, t616, t617, t618, t619, t620, t621, t622, t623, t624, t625, t626, t627, t628, t629, t630, t631, t632, t633, t634, t635, t636, t637, t638, t639, t640, t641, t642, t643, t644, t645, t646, t647, t648, t649, t650, t651, t652, t653, t654, t655, t656, t657, t658, t659, t660, t661, t662, t663, t664, t665, t666, t667, t668, t669, t670, t671, t672, t673, t674, t675, t676, t677, t678, t679, t680, t681, t682, t683, t684, t685, t686, t687, t688, t689, t690, t691, t692, t693, t694, t695, t696, t697, t698, t699, t700, t701, t702, t703, t704, t705, t706, t707, t708, t709, t710, t711, t712, t713, t714, t715, t716, t717, t718, t719, t720, t721, t722, t723, t724, t725, t726, t727, t728, t729, t730, t731, t732, t733, t734, t735, t736, t737, t738, t739, t740, t741, t742, t743, t744, t745, t746, t747, t748, t749, t750, t751, t752, t753, t754, t755, t756, t757, t758, t759, u760], []⟩ w') :
    (inBlock (B3 7)).wp Yba.prog Q ⟨#[u0, u1, v2, u3, u4, u5, .slice (some ⟨pb, 0, none⟩) 6 6, u7, pt lrb, .slice (some ⟨bS, 0, none⟩) 6 6, .slice (some ⟨bA, 0, none⟩) 6 6, u11, vsts, vp, u14, u15, u16, u17, u18, u19, u20, u21, u22, u23, u24, u25, u26, u27, u28, u29, u30, u31, u32, u33, u34, u35, u36, u37, u38, u39, u40, u41, u42, u43, u44, u45, u46, u47, u48, u49, u50, u51, u52, u53, u54, u55, u56, u57, u58, u59, u60, u61, u62, u63, u64, u65, u66, u67, u68, u69, u70, u71, u72, u73, u74, u75, u76, u77, u78, u79, u80, u81, u82, u83, u84, u85, u86, u87, u88, u89, u90, u91, u92, u93, u94, u95, .slice (some ⟨sb0, so, none⟩) N sc, u97, vi k, u99, u100, u101, u102, u103, u104, u105, u106, u107, u108, u109, u110, u111, u112, u113, u114, u115, u116, u117, u118, u119, u120, u121, u122, u123, u124, u125, u126, u127, u128, u129, u130, u131, u132, u133, u134, u135, u136, u137, u138, u139, u140, u141, u142, u143, u144, u145, u146, u147, u148, u149, u150, u151, u152, u153, u154, u155, u156, u157, u158, u159, u160, u161, u162, u163, u164, u165, u166, u167, u168, u169, u170, u171, u172, u173, u174, u175, u176, u177, u178, u179, u180, u181, u182, u183, u184, u185, u186, u187, u188, u189, u190, u191, u192, u193, u194, u195, u196, u197, u198, u199, u200, u201, u202, u203, u204, u205, u206, u207, u208, u209, u210, u211, u212, u213, u214, u215, u216, u217, u218, u219, u220, u221, u222, u223, u224, u225, u226, u227, u228, u229, u230, u231, u232, u233, u234, u235, u236, u237, u238, u239, u240, u241, u242, u243, u244, u245, u246, u247, u248, u249, u250, u251, u252, u253, u254, u255, u256, u257, u258, u259, u260, u261, u262, u263, u264, u265, u266, u267, u268, u269, u270, u271, u272, u273, u274, u275, u276, u277, u278, u279, u280, u281, u282, u283, u284, u285, u286, u287, u288, u289, u290, u291, u292, u293, u294, u295, u296, u297, u298, u299, u300, u301, u302, u303, u304, u305, u306, u307, u308, u309, u310, u311, u312, u313, u314, u315, u316, u317, u318, u319, u320, u321, u322, u323, u324, u325, u326, u327, u328, u329, u330, u331, u332, u333, u334, u335, u336, u337, u338, u339, u340, u341, u342, u343, u344, u345, u346, u347, u348, u349, u350, u351, u352, u353, u354, u355, u356, u357, u358, u359, u360, u361, u362, u363, u364, u365, u366, u367, u368, u369, u370, u371, u372, u373, u374, u375, u376, u377, u378, u379, u380, u381, u382, u383, u384, u385, u386, u387, u388, u389, u390, u391, u392, u393, u394, u395, u396, u397, u398, u399, u400, u401, u402, u403, u404, u405, u406, u407, u408, u409, u410, u411, u412, u413, u414, u415, u416, u417, u418, u419, u420, u421, u422, u423, u424, u425, u426, u427, u428, u429, u430, u431, u432, u433, u434, u435, u436, u437, u438, u439, u440, u441, u442, u443, u444, u445, u446, u447, u448, u449, u450, u451, u452, u453, u454, u455, u456, u457, u458, u459, u460, u461, u462, u463, u464, u465, u466, u467, u468, u469, u470, u471, u472, u473, u474, u475, u476, u477, u478, u479, u480, u481, u482, u483, u484, u485, u486, u487, u488, u489, u490, u491, u492, u493, u494, u495, u496, u497, u498, u499, u500, u501, u502, u503, u504, u505, u506, u507, u508, u509, u510, u511, u512, u513, u514, u515, u516, u517, u518, u519, u520, u521, u522, u523, u524, u525, u526, u527, u528, u529, u530, u531, u532, u533, u534, u535, u536, u537, u538, u539, u540, u541, u542, u543, u544, u545, u546, u547, u548, u549, u550, u551, u552, u553, u554, u555, u556, u557, u558, u559, u560, u561, u562, u563, u564, u565, u566, u567, u568, u569, u570, u571, u572, u573, u574, u575, u576, u577, u578, u579, u580, u581, u582, u583, u584, u585, u586, u587, u588, u589, u590, u591, u592, u593, u594, u595, u596, u597, u598, u599, u600, u601, u602, u603, u604, u605, u606, u607, u608, u609, u610, u611, u612, u613, u614, u615, u616, u617, u618, u619, u620, u621, u622, u623, u624, u625, u626, u627, u628, u629, u630, u631, u632, u633, u634, u635, u636, u637, u638, u639, u640, u641, u642, u643, u644, u645, u646, u647, u648, u649, u650, u651, u652, u653, u654, u655, u656, u657, u658, u659, u660, u661, u662, u663, u664, u665, u666, u667, u668, u669, u670, u671, u672, u673, u674, u675, u676, u677, u678, u679, u680, u681, u682, u683, u684, u685, u686, u687, u688, u689, u690, u691, u692, u693, u694, u695, u696, u697, u698, u699, u700, u701, u702, u703, u704, u705, u706, u707, u708, u709, u710, u711, u712, u713, u714, u715, u716, u717, u718, u719, u720, u721, u722, u723, u724, u725, u726, u727, u728, u729, u730, u731, u732, u733, u734, u735, u736, u737, u738, u739, u740, u741, u742, u743, u744, u745, u746, u747, u748, u749, u750, u751, u752, u753, u754, u755, u756, u757, u758, u759, u760], []⟩ w := by
  obtain ⟨D, M, pts, V, cs, v7, h, rd, md, wf, wf2, ne, hlr, h7, h19, hpool, hp, hnB, hlB⟩ := hLaw
  have hn : n ≤ 65536 := by omega
  have hBd' : Bd ≤ 65536 := by omega
  rw [seq7]
  refine wp_seq (st0 h hk c0 c1 c2 c3 ?_)
  intro t100 t101 w1 sb h1
  have hsb1 := upd_same D (.file 6) sb (row [.slice la n lc, .int .u8 mk, .int .i32 rc, .int .i32 li] 25)
  have o1 : ∀ t, t ≠ .file 6 → upd D (.file 6) sb (row [.slice la n lc, .int .u8 mk, .int .i32 rc, .int .i32 li] 25) t = D t := fun t ht => upd_other ht
  generalize upd D (.file 6) sb (row [.slice la n lc, .int .u8 mk, .int .i32 rc, .int .i32 li] 25) = D1 at *
  refine then_normal (wp_seq (st1 L h1 hsb1 hn ?_))
  intro t102 t103 t104 t105 w2 Lb h2
  have hL2 := upd_same D1 .L Lb (row (rowF n (gI L 0)) 3)
  have o2 : ∀ t, t ≠ .L → upd D1 .L Lb (row (rowF n (gI L 0)) 3) t = D1 t := fun t ht => upd_other ht
  generalize upd D1 .L Lb (row (rowF n (gI L 0)) 3) = D2 at *
  have hsb2 := (o2 (.file 6) (by simp)).trans hsb1
  refine then_normal (wp_seq (st2 P L h2 hsb2 hn ?_))
  intro t106 t107 t108 t109 w3 lb h3
  have hls3 := upd_same D2 .ls lb (row (rowF n (gP P L 0)) 27)
  have o3 : ∀ t, t ≠ .ls → upd D2 .ls lb (row (rowF n (gP P L 0)) 27) t = D2 t := fun t ht => upd_other ht
  generalize upd D2 .ls lb (row (rowF n (gP P L 0)) 27) = D3 at *
  have hsb3 := (o3 (.file 6) (by simp)).trans hsb2
  have hL3 := (o3 .L (by simp)).trans hL2
  have oa : ∀ t, t ≠ .file 6 → t ≠ .L → t ≠ .ls → D3 t = D t := fun t k1 k2 k3 => (o3 t k3).trans ((o2 t k2).trans (o1 t k1))
  refine then_normal (wp_seq (st3 h3 hsb3 ((oa _ (by simp) (by simp) (by simp)).trans hpool) hL3 hls3 hU hmod hU0 hL6 hn ?_))
  intro t110 t111 t112 t18 t19 t113 t114 t115 t116 t117 t118 t119 t120 t121 t122 t123 t124 t125 t126 t127 t128 t129 t130 t131 t132 t133 t134 w4 D4 h4 hL4 hls4 o4
  have hsb4 := (o4 (.file 6) (by simp) (by simp)).trans hsb3
  have oD : ∀ t, t ≠ .file 6 → t ≠ .L → t ≠ .ls → D4 t = D t := fun t k1 k2 k3 => (o4 t k2 k3).trans (oa t k1 k2 k3)
  clear h1 h2 h3 o1 o2 o3 o4 oa hsb1 hsb2 hsb3 hL2 hL3 hls3
  refine then_normal (wp_seq (st4 h4 ?_))
  intro w5 h5
  refine then_normal (wp_seq (st5 h5 ?_))
  intro w6 h6
  have d0 : Mdl w0 D4 M bS bA Bd Bd 0 M V [] vsts (.slice none 0 0) D4 w6 := ⟨h6, md.congr (fun t ht => oD t (usedM_noFile ht 6) (by rintro rfl; simp [usedM] at ht) (by rintro rfl; simp [usedM] at ht)), wf, Sl.nil _ _ _ _, fun _ _ => rfl, by simp, Nat.le_refl _, hnB, hlB, by simp⟩
  refine then_normal (wp_seq (block10 d0 hL4 hL6 hn hBd' ?_))
  intro t21 t22 t23 t24 t25 t26 t27 t28 t135 t136 t137 t138 t139 t140 t141 t142 t143 t144 t145 t146 t147 t148 t149 t150 t151 t152 t153 t154 t155 t156 t157 t158 t159 t160 t161 t162 t163 t164 t165 t166 t167 t168 t169 t170 t171 t172 t173 t174 t175 t176 t177 t178 t179 t180 t181 t182 t183 t184 t185 t186 t187 t188 t189 t190 t191 t192 t193 t194 t195 t196 t197 t198 t199 t200 t201 t202 t203 t204 t205 t206 t207 t208 t209 t210 t211 t212 t213 t214 t215 t216 t217 t218 t219 t220 t221 t222 t223 t224 t225 t226 t227 t228 t229 t230 t231 t232 t233 t234 t235 t236 t237 t238 t239 t240 t241 t242 t243 t244 t245 t246 t247 t248 t249 t250 t251 t252 t253 t254 t255 t256 t257 t258 t259 t260 t261 t262 t263 t264 t265 t266 t267 t268 t269 t270 t271 t272 t273 t274 t275 t276 t277 t278 t279 t280 t281 t282 t283 t284 t285 t286 t287 t288 t289 t290 t291 t292 t293 t294 t295 t296 t297 t298 t299 t300 t301 t302 t303 t304 t305 t306 t307 t308 t309 t310 t311 t312 t313 t314 t315 t316 t317 t318 t319 w7 D5 V' M' acc' vsts' vw' hwh d1
  clear d0
  have rd5 := rd.congr6 (D' := D5) (fun t hu hf => (d1.same t (usedR_notLaw hu)).trans (oD t (hf 6 (by omega)) (by rintro rfl; simp [usedR] at hu) (by rintro rfl; simp [usedR] at hu)))
  have hlr5 := (d1.same .lr rfl).trans ((oD .lr (by simp) (by simp) (by simp)).trans hlr)
  have hls5 := (d1.same .ls rfl).trans hls4
  refine then_normal (wp_seq (st7 d1.h rd5 wf hlr5 h7 h19 hls5 hL6 hn hBd' hnB hlB ?_))
  intro t320 t321 t322 w8 D6 pts' M2 acc2 vl cb db wb h8 rd8 hwh2 hlr8 hch8 hlg8 hdg8 hwb8 hot8 hpts
  obtain ⟨e1, e2⟩ := hwh.det hwh2
  subst e1
  subst e2
  obtain ⟨wf', wf2', ne'⟩ := hwh.inv hL6 wf wf2 ne
  have md8 := d1.md.congr (D' := D6) (fun t ht => hot8 t (usedM_notReal ht) (usedM_noFile ht 7) (usedM_noFile ht 8))
  have wt8 := d1.wt.congr (D' := D6) (hot8 .want rfl (by simp) (by simp))
  have ok8 : ∀ t, isReal t = false → isLaw t = false → t ≠ .file 7 → t ≠ .file 8 → D6 t = D4 t := fun t k1 k2 k3 k4 => (hot8 t k1 k3 k4).trans (d1.same t k2)
  have hpool8 := (ok8 .pool rfl rfl (by simp) (by simp)).trans ((oD .pool (by simp) (by simp) (by simp)).trans hpool)
  have hp8 : Sl D6 .ptrs 88 1 vp (rowF M.ns fun s => pt (pts' s)) := by
    rw [rowF_congr (g := fun s => pt (pts s)) (fun s hs => by rw [hpts s hs])]
    exact hp.congr ((ok8 .ptrs rfl rfl (by simp) (by simp)).trans (oD .ptrs (by simp) (by simp) (by simp)))
  have hsb8 := (ok8 (.file 6) rfl rfl (by simp) (by simp)).trans hsb4
  have hL8 := (ok8 .L rfl rfl (by simp) (by simp)).trans hL4
  have hls8 := (ok8 .ls rfl rfl (by simp) (by simp)).trans hls4
  have hns := d1.nsB
  have hln := d1.lnB
  have hsid := d1.sid
  have hacc := d1.accB
  have hns0 := d1.ns0
  have h7' : (cs.set 7 (.slice (some ⟨lb, 0, none⟩) n n))[7]? = some (.slice (some ⟨lb, 0, none⟩) n n) := by
    have := (List.getElem?_eq_some_iff.1 h7).1
    rw [List.getElem?_set_self this]
  have h19' : (cs.set 7 (.slice (some ⟨lb, 0, none⟩) n n))[19]? = some (.map (some mb)) := by
    rw [List.getElem?_set_ne (by omega)]; exact h19
  generalize cs.set 7 (.slice (some ⟨lb, 0, none⟩) n n) = cs' at *
  clear ok8 hot8 hpts rd5 hlr5 hls5 d1 hwh hwh2 hsb4 hL4 hls4 rd md hlr hpool hp h h4 h5 h6 h7 h19
  refine then_normal (wp_seq (block18 h8 rd8 md8 wf' wf2' ne' hlr8 h19' hpool8 hp8 hns0 (by omega) ?_))
  intro t323 t324 t325 t326 t327 t328 t329 t330 t331 t332 t333 t334 t335 t336 t337 t338 t339 t340 t341 t342 t343 t344 t345 t346 t347 w9 D7 vp' h9 hp9 o9
  have og : ∀ t, (∀ m, t ≠ .x m) → t ≠ .ptrs → D7 t = D6 t := o9
  have rd9 := rd8.congr (D' := D7) (fun t hu => o9 t (usedR_x hu) (by rintro rfl; simp [usedR] at hu))
  have md9 := md8.congr (D' := D7) (fun t hu => o9 t (usedM_x hu) (by rintro rfl; simp [usedM] at hu))
  have wt9 := wt8.congr (D' := D7) (o9 .want (by simp) (by simp))
  have lg9 := hlg8.congr (D' := D7) (o9 .legs (by simp) (by simp))
  have hlr9 := (o9 .lr (by simp) (by simp)).trans hlr8
  have hch9 := (o9 .ch (by simp) (by simp)).trans hch8
  have hdg9 := (o9 (.file 8) (by simp) (by simp)).trans hdg8
  have hwb9 := (o9 (.file 7) (by simp) (by simp)).trans hwb8
  have hsb9 := (o9 (.file 6) (by simp) (by simp)).trans hsb8
  have hL9 := (o9 .L (by simp) (by simp)).trans hL8
  have hls9 := (o9 .ls (by simp) (by simp)).trans hls8
  have hpool9 := (o9 .pool (by simp) (by simp)).trans hpool8
  clear rd8 md8 wt8 hlg8 hlr8 hch8 hdg8 hwb8 hsb8 hL8 hls8 hpool8 o9 og hp8 h8
  obtain ⟨la2, lc2, rfl, -⟩ := lg9.read (len := acc'.length) (legsR_len _ _)
  obtain ⟨wa2, wc2, rfl, -⟩ := wt9.read (len := acc'.length) (legsM_length _)
  refine then_normal (wp_seq (st9 h9 hwb9 ?_))
  intro t348 t349 t350 t351 t352 t353 t354 t355 t356 t357 t358 t359 t360 t361 t362 t363 t364 t365 t366 t367 t368 t369 t370 t371 t372 w10 h10
  refine then_normal (wp_seq (st10 h10 hwb9 ?_))
  intro t373 t374 w11 h11
  refine then_normal (wp_seq (st11 h11 hdg9 ?_))
  intro t375 t376 t377 t378 t379 t380 t381 t382 t383 t384 t385 t386 t387 t388 t389 t390 t391 t392 t393 t394 t395 t396 t397 t398 t399 t400 t401 t402 t403 t404 t405 t406 t407 t408 t409 t410 t411 t412 t413 t414 t415 t416 t417 t418 t419 t420 t421 w12 h12
  refine then_normal (wp_seq (st12 h12 hwb9 ?_))
  intro t422 t423 w13 h13
  refine then_normal (wp_seq (st13 h13 hch9 ?_))
  intro t424 t425 t426 t427 t428 t429 t430 t431 t432 t433 t434 t435 t436 t437 t438 t439 t440 t441 t442 t443 t444 t445 t446 t447 t448 t449 t450 t451 t452 t453 t454 t455 w14 h14
  refine then_normal (wp_seq (st14 h14 hch9 lg9 wt9 hp9 hsid rfl (by omega) (by omega) ?_))
  intro t456 t457 t458 t459 t460 t2 t32 t33 t34 t461 t462 t463 t464 t465 t466 t467 t468 t469 t470 t471 t472 t473 t474 t475 t476 t477 t478 t479 t480 t481 t482 t483 t484 t485 t486 t487 t488 t489 t490 t491 t492 t493 t494 t495 t496 t497 t498 t499 w15 h15
  refine then_normal (wp_seq (st15 h15 hlr9 h7' ?_))
  intro t500 t501 t502 t503 t504 t505 t506 t507 w16 h16
  refine then_normal (wp_seq (st16 h16 hlr9 h7' hn ?_))
  intro t508 t509 t510 t511 t512 t513 t514 t515 t516 t517 t518 t519 t520 w17 h17
  refine then_normal (wp_seq (st17 h17 hpool9 hL9 hls9 hL6 hn ?_))
  intro t521 t522 t2 t35 t523 t524 t525 t526 t527 t528 t529 t530 t531 t532 t533 t534 t535 t536 t537 t538 w18 h18
  refine then_normal (wp_seq (st18 h18 ?_))
  intro w19 h19b
  refine then_normal (wp_seq (st19 h19b rd9 wf' md9.fs md9.fa hlr9 h19' hpool9 hp9 (by omega) ?_))
  intro t2 t37 t38 t39 t539 t540 t541 t542 t543 t544 t545 t546 t547 t548 t549 t550 t551 t552 t553 t554 t555 t556 t557 t558 t559 t560 t561 t562 t563 t564 t565 t566 t567 t568 t569 t570 t571 t572 t573 t574 t575 t576 t577 t578 t579 t580 t581 t582 t583 w20 D8 h20 o20
  have rd10 := rd9.congr (D' := D8) (fun t hu => o20 t (usedR_x hu))
  have md10 := md9.congr (D' := D8) (fun t hu => o20 t (usedM_x hu))
  have hlr10 := (o20 .lr (by simp)).trans hlr9
  have hpool10 := (o20 .pool (by simp)).trans hpool9
  have hp10 := hp9.congr (D' := D8) (o20 .ptrs (by simp))
  have hsb10 := (o20 (.file 6) (by simp)).trans hsb9
  refine then_normal (wp_seq (st20 h20 rd10 hlr10 h19' ?_))
  intro t584 t585 t586 t587 t588 t589 t590 w21 h21
  refine then_normal (wp_seq (st21 h21 rd10 md10 wf' hpool10 hp10 (by omega) (fun s => by have := hln s; omega) ?_))
  intro t591 t592 t2 t40 t41 t42 t43 t593 t594 t595 t596 t597 t598 t599 t600 t601 t602 t603 t604 t605 t606 t607 t608 t609 t610 t611 t612 t613 t614 t615 t616 t617 t618 t619 t620 t621 t622 t623 t624 t625 t626 t627 t628 t629 t630 t631 t632 t633 t634 t635 t636 t637 t638 t639 t640 t641 t642 t643 t644 t645 t646 t647 t648 t649 t650 t651 t652 t653 t654 t655 t656 t657 t658 t659 t660 t661 t662 t663 t664 t665 t666 t667 t668 t669 t670 t671 t672 t673 t674 t675 t676 t677 t678 t679 t680 t681 t682 t683 t684 t685 t686 t687 t688 t689 t690 t691 t692 w22 D9 h22 o22
  have rd11 := rd10.congr (D' := D9) (fun t hu => o22 t (usedR_x hu))
  have md11 := md10.congr (D' := D9) (fun t hu => o22 t (usedM_x hu))
  have hlr11 := (o22 .lr (by simp)).trans hlr10
  have hpool11 := (o22 .pool (by simp)).trans hpool10
  have hp11 := hp10.congr (D' := D9) (o22 .ptrs (by simp))
  have hsb11 := (o22 (.file 6) (by simp)).trans hsb10
  refine then_normal (wp_seq (st22 h22 hsb11 hm hm0 hm1 ?_))
  intro t693 t694 t695 t696 w23 h23
  refine then_normal (wp_seq (st23 h23 md11.fs hf ?_))
  intro t697 t698 t699 t700 w24 h24
  refine then_normal (wp_seq (st24 h24 ?_))
  intro t701 w25 h25
  refine then_normal (mark702 h25 rd11 md11 wf' hlr11 h19' hpool11 hsb11 hf rfl rfl r1 r2 l1 l2 (by omega) (fun s => by have := hln s; omega) ?_)
  intro t46 t47 t703 t704 t705 t706 t707 t708 t709 t710 t711 t712 t713 t714 t715 t716 t717 t718 t719 t720 t721 t722 t723 t724 t725 t726 t727 t728 t729 t730 t731 t732 t733 t734 t735 t736 t737 t738 t739 t740 t741 t742 t743 t744 t745 t746 t747 t748 t749 t750 t751 t752 t753 t754 t755 t756 t757 t758 t759 w26 D10 M3 h26 rd12 md12 hM3 o26
  have hlr12 := (o26 .lr (by simp) rfl rfl).trans hlr11
  have hpool12 := (o26 .pool (by simp) rfl rfl).trans hpool11
  have hp12 := hp11.congr (D' := D10) (o26 .ptrs (by simp) rfl rfl)
  refine hQ ?_
  rcases hM3 with rfl | ⟨s, k', p, r, rfl⟩
  · exact ⟨D10, M3, pts', _, cs', _, h26, rd12, md12, wf', wf2', ne', hlr12, h7', h19', hpool12, hp12, by omega, hln⟩
  · exact ⟨D10, _, pts', _, cs', _, h26, rd12, md12, wf'.mark _ _ _ _, wf2'.mark _ _ _ _, ne'.mark _ _ _ _, hlr12, h7', h19', hpool12, hp12, hns, hln⟩
end Go.Proofs.Ybulkeaca.CW
