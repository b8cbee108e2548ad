import Derived.Test.YbulkeacaB12
import Derived.Test.YbulkeacaB14
import Derived.Test.YbulkeacaB16
namespace Go.Proofs.Ybulkeaca.CW
open Go.RowKit Go.Proofs.Ybulkeaca.Kit

set_option maxRecDepth 100000 in
set_option maxHeartbeats 20000000 in
theorem block10 {Q : Exit → Act → World → Prop} {w0 w : World} {D0 D : Desc} {M0 : Mod} {bS bA Bd Lb n : Nat} {vsts : Value} {V0 : Nat → Tri} {L : Nat → Nat} {u0 u1 u2 u3 u4 u5 u6 u7 u8 u11 u13 u14 u15 u17 u18 u19 u22 u23 u24 u25 u26 u27 u28 u29 u30 u31 u32 u33 u34 u35 u36 u37 u38 u39 u40 u41 u42 u43 u44 u45 u46 u47 u48 u49 u50 u51 u52 u53 u54 u55 u56 u57 u58 u59 u60 u61 u62 u63 u64 u65 u66 u67 u68 u69 u70 u71 u72 u73 u74 u75 u76 u77 u78 u79 u80 u81 u82 u83 u84 u85 u86 u87 u88 u89 u90 u91 u92 u93 u94 u95 u96 u97 u98 u99 u100 u101 u102 u103 u104 u105 u106 u107 u108 u109 u110 u111 u112 u113 u114 u115 u116 u117 u118 u119 u120 u121 u122 u123 u124 u125 u126 u127 u128 u129 u130 u131 u132 u133 u134 u135 u136 u137 u138 u139 u140 u141 u142 u143 u144 u145 u146 u147 u148 u149 u150 u151 u152 u153 u154 u155 u156 u157 u158 u159 u160 u161 u162 u163 u164 u165 u166 u167 u168 u169 u170 u171 u172 u173 u174 u175 u176 u177 u178 u179 u180 u181 u182 u183 u184 u185 u186 u187 u188 u189 u190 u191 u192 u193 u194 u195 u196 u197 u198 u199 u200 u201 u202 u203 u204 u205 u206 u207 u208 u209 u210 u211 u212 u213 u214 u215 u216 u217 u218 u219 u220 u221 u222 u223 u224 u225 u226 u227 u228 u229 u230 u231 u232 u233 u234 u235 u236 u237 u238 u239 u240 u241 u242 u243 u244 u245 u246 u247 u248 u249 u250 u251 u252 u253 u254 u255 u256 u257 u258 u259 u260 u261 u262 u263 u264 u265 u266 u267 u268 u269 u270 u271 u272 u273 u274 u275 u276 u277 u278 u279 u280 u281 u282 u283 u284 u285 u286 u287 u288 u289 u290 u291 u292 u293 u294 u295 u296 u297 u298 u299 u300 u301 u302 u303 u304 u305 u306 u307 u308 u309 u310 u311 u312 u313 u314 u315 u316 u317 u318 u319 u320 u321 u322 u323 u324 u325 u326 u327 u328 u329 u330 u331 u332 u333 u334 u335 u336 u337 u338 u339 u340 u341 u342 u343 u344 u345 u346 u347 u348 u349 u350 u351 u352 u353 u354 u355 u356 u357 u358 u359 u360 u361 u362 u363 u364 u365 u366 u367 u368 u369 u370 u371 u372 u373 u374 u375 u376 u377 u378 u379 u380 u381 u382 u383 u384 u385 u386 u387 u388 u389 u390 u391 u392 u393 u394 u395 u396 u397 u398 u399 u400 u401 u402 u403 u404 u405 u406 u407 u408 u409 u410 u411 u412 u413 u414 u415 u416 u417 u418 u419 u420 u421 u422 u423 u424 u425 u426 u427 u428 u429 u430 u431 u432 u433 u434 u435 u436 u437 u438 u439 u440 u441 u442 u443 u444 u445 u446 u447 u448 u449 u450 u451 u452 u453 u454 u455 u456 u457 u458 u459 u460 u461 u462 u463 u464 u465 u466 u467 u468 u469 u470 u471 u472 u473 u474 u475 u476 u477 u478 u479 u480 u481 u482 u483 u484 u485 u486 u487 u488 u489 u490 u491 u492 u493 u494 u495 u496 u497 u498 u499 u500 u501 u502 u503 u504 u505 u506 u507 u508 u509 u510 u511 u512 u513 u514 u515 u516 u517 u518 u519 u520 u521 u522 u523 u524 u525 u526 u527 u528 u529 u530 u531 u532 u533 u534 u535 u536 u537 u538 u539 u540 u541 u542 u543 u544 u545 u546 u547 u548 u549 u550 u551 u552 u553 u554 u555 u556 u557 u558 u559 u560 u561 u562 u563 u564 u565 u566 u567 u568 u569 u570 u571 u572 u573 u574 u575 u576 u577 u578 u579 u580 u581 u582 u583 u584 u585 u586 u587 u588 u589 u590 u591 u592 u593 u594 u595 u596 u597 u598 u599 u600 u601 u602 u603 u604 u605 u606 u607 u608 u609 u610 u611 u612 u613 u614 u615 u616 u617 u618 u619 u620 u621 u622 u623 u624 u625 u626 u627 u628 u629 u630 u631 u632 u633 u634 u635 u636 u637 u638 u639 u640 u641 u642 u643 u644 u645 u646 u647 u648 u649 u650 u651 u652 u653 u654 u655 u656 u657 u658 u659 u660 u661 u662 u663 u664 u665 u666 u667 u668 u669 u670 u671 u672 u673 u674 u675 u676 u677 u678 u679 u680 u681 u682 u683 u684 u685 u686 u687 u688 u689 u690 u691 u692 u693 u694 u695 u696 u697 u698 u699 u700 u701 u702 u703 u704 u705 u706 u707 u708 u709 u710 u711 u712 u713 u714 u715 u716 u717 u718 u719 u720 u721 u722 u723 u724 u725 u726 u727 u728 u729 u730 u731 u732 u733 u734 u735 u736 u737 u738 u739 u740 u741 u742 u743 u744 u745 u746 u747 u748 u749 u750 u751 u752 u753 u754 u755 u756 u757 u758 u759 u760 : Value}
    (d0 : Mdl w0 D0 M0 bS bA Bd Bd 0 M0 V0 [] vsts (.slice none 0 0) D w) (hL : D0 .L = some (Lb, row (rowF n fun i => vi (L i)) 3)) (hL6 : ∀ j, j < n → L j < 6) (hn : n ≤ 65536) (hBd : Bd ≤ 65536)
    (hQ : ∀ {t21 t22 t23 t24 t25 t26 t27 t28 t135 t136 t137 t138 t139 t140 t141 t142 t143 t144 t145 t146 t147 t148 t149 t150 t151 t152 t153 t154 t155 t156 t157 t158 t159 t160 t161 t162 t163 t164 t165 t166 t167 t168 t169 t170 t171 t172 t173 t174 t175 t176 t177 t178 t179 t180 t181 t182 t183 t184 t185 t186 t187 t188 t189 t190 t191 t192 t193 t194 t195 t196 t197 t198 t199 t200 t201 t202 t203 t204 t205 t206 t207 t208 t209 t210 t211 t212 t213 t214 t215 t216 t217 t218 t219 t220 t221 t222 t223 t224 t225 t226 t227 t228 t229 t230 t231 t232 t233 t234 t235 t236 t237 t238 t239 t240 t241 t242 t243 t244 t245 t246 t247 t248 t249 t250 t251 t252 t253 t254 t255 t256 t257 t258 t259 t260 t261 t262 t263 t264 t265 t266 t267 t268 t269 t270 t271 t272 t273 t274 t275 t276 t277 t278 t279 t280 t281 t282 t283 t284 t285 t286 t287 t288 t289 t290 t291 t292 t293 t294 t295 t296 t297 t298 t299 t300 t301 t302 t303 t304 t305 t306 t307 t308 t309 t310 t311 t312 t313 t314 t315 t316 t317 t318 t319 : Value} {w' : World} {D' : Desc} {V' : Nat → Tri} {M' : Mod} {acc' : List Leg} {vsts' vw' : Value}, Whole L n M0 0 [] M' acc' → Mdl w0 D0 M0 bS bA (Bd + n) (Bd + n) n M' V' acc' vsts' vw' D' w' → Q .normal ⟨#[u0, u1, u2, u3, u4, u5, u6, u7, u8, .slice (some ⟨bS, 0, none⟩) 6 6, .slice (some ⟨bA, 0, none⟩) 6 6, u11, vsts', u13, u14, u15, .slice (some ⟨Lb, 0, none⟩) n n, u17, u18, u19, vw', t21, t22, t23, t24, t25, t26, t27, t28, u29, u30, u31, u32, u33, u34, u35, u36, u37, u38, u39, u40, u41, u42, u43, u44, u45, u46, u47, u48, u49, u50, u51, u52, u53, u54, u55, u56, u57, u58, u59, u60, u61, u62, u63, u64, u65, u66, u67, u68, u69, u70, u71, u72, u73, u74, u75, u76, u77, u78, u79, u80, u81, u82, u83, u84, u85, u86, u87, u88, u89, u90, u91, u92, u93, u94, u95, u96, u97, u98, u99, u100, u101, u102, u103, u104, u105, u106, u107, u108, u109, u110, u111, u112, u113, u114, u115, u116, u117, u118, u119, u120, u121, u122, u123, u124, u125, u126, u127, u128, u129, u130, u131, u132, u133, u134, t135, t136, t137, t138, t139, t140, t141, t142, t143, t144, t145, t146, t147, t148, t149, t150, t151, t152, t153, t154, t155, t156, t157, t158, t159, t160, t161, t162, t163, t164, t165, t166, t167, t168, t169, t170, t171, t172, t173, t174, t175, t176, t177, t178, t179, t180, t181, t182, t183, t184, t185, t186, t187, t188, t189, t190, t191, t192, t193, t194, t195, t196, t197, t198, t199, t200, t201, t202, t203, t204, t205, t206, t207, t208, t209, t210, t211, t212, t213, t214, t215, t216, t217, t218, t219, t220, t221, t222, t223, t224, t225, t226, t227, t228, t229, t230, t231, t232, t233, t234, t235, t236, t237, t238, t239, t240, t241, t242, t243, t244, t245, t246, t247, t248, t249, t250, t251, t252, t253, t254, t255, t256, t257, t258, t259, t260, t261, t262, t263, t264, t265, t266, t267, t268, t269, t270, t271, t272, t273, t274, t275, t276, t277, t278, t279, t280, t281, t282, t283, t284, t285, t286, t287, t288, t289, t290, t291, t292, t293, t294, t295, t296, t297, t298, t299, t300, t301, t302, t303, t304, t305, t306, t307, t308, t309, t310, t311, t312, t313, t314, t315, t316, t317, t318, t319, u320, u321, u322, u323, u324, u325, u326, u327, u328, u329, u330, u331, u332, u333, u334, u335, u336, u337, u338, u339, u340, u341, u342, u343, u344, u345, u346, u347, u348, u349, u350, u351, u352, u353, u354, u355, u356, u357, u358, u359, u360, u361, u362, u363, u364, u365, u366, u367, u368, u369, u370, u371, u372, u373, u374, u375, u376, u377, u378, u379, u380, u381, u382, u383, u384, u385, u386, u387, u388, u389, u390, u391, u392, u393, u394, u395, u396, u397, u398, u399, u400, u401, u402, u403, u404, u405, u406, u407, u408, u409, u410, u411, u412, u413, u414, u415, u416, u417, u418, u419, u420, u421, u422, u423, u424, u425, u426, u427, u428, u429, u430, u431, u432, u433, u434, u435, u436, u437, u438, u439, u440, u441, u442, u443, u444, u445, u446, u447, u448, u449, u450, u451, u452, u453, u454, u455, u456, u457, u458, u459, u460, u461, u462, u463, u464, u465, u466, u467, u468, u469, u470, u471, u472, u473, u474, u475, u476, u477, u478, u479, u480, u481, u482, u483, u484, u485, u486, u487, u488, u489, u490, u491, u492, u493, u494, u495, u496, u497, u498, u499, u500, u501, u502, u503, u504, u505, u506, u507, u508, u509, u510, u511, u512, u513, u514, u515, u516, u517, u518, u519, u520, u521, u522, u523, u524, u525, u526, u527, u528, u529, u530, u531, u532, u533, u534, u535, u536, u537, u538, u539, u540, u541, u542, u543, u544, u545, u546, u547, u548, u549, u550, u551, u552, u553, u554, u555, u556, u557, u558, u559, u560, u561, u562, u563, u564, u565, u566, u567, u568, u569, u570, u571, u572, u573, u574, u575, u576, u577, u578, u579, u580, u581, u582, u583, u584, u585, u586, u587, u588, u589, u590, u591, u592, u593, u594, u595, u596, u597, u598, u599, u600, u601, u602, u603, u604, u605, u606, u607, u608, u609, u610, u611, u612, u613, u614, u615, u616, u617, u618, u619, u620, u621, u622, u623, u624, u625, u626, u627, u628, u629, u630, u631, u632, u633, u634, u635, u636, u637, u638, u639, u640, u641, u642, u643, u644, u645, u646, u647, u648, u649, u650, u651, u652, u653, u654, u655, u656, u657, u658, u659, u660, u661, u662, u663, u664, u665, u666, u667, u668, u669, u670, u671, u672, u673, u674, u675, u676, u677, u678, u679, u680, u681, u682, u683, u684, u685, u686, u687, u688, u689, u690, u691, u692, u693, u694, u695, u696, u697, u698, u699, u700, u701, u702, u703, u704, u705, u706, u707, u708, u709, u710, u711, u712, u713, u714, u715, u716, u717, u718, u719, u720, u721, u722, u723, u724, u725, u726, u727, u728, u729, u730, u731, u732, u733, u734, u735, u736, u737, u738, u739, u740, u741, u742, u743, u744, u745, u746, u747, u748, u749, u750, u751, u752, u753, u754, u755, u756, u757, u758, u759, u760], []⟩ w') :
    (B3 10).wp Yba.prog Q ⟨#[u0, u1, u2, u3, u4, u5, u6, u7, u8, .slice (some ⟨bS, 0, none⟩) 6 6, .slice (some ⟨bA, 0, none⟩) 6 6, u11, vsts, u13, u14, u15, .slice (some ⟨Lb, 0, none⟩) n n, u17, u18, u19, .slice none 0 0, vi 0, u22, u23, u24, u25, u26, u27, u28, u29, u30, u31, u32, u33, u34, u35, u36, u37, u38, u39, u40, u41, u42, u43, u44, u45, u46, u47, u48, u49, u50, u51, u52, u53, u54, u55, u56, u57, u58, u59, u60, u61, u62, u63, u64, u65, u66, u67, u68, u69, u70, u71, u72, u73, u74, u75, u76, u77, u78, u79, u80, u81, u82, u83, u84, u85, u86, u87, u88, u89, u90, u91, u92, u93, u94, u95, u96, u97, u98, u99, u100, u101, u102, u103, u104, u105, u106, u107, u108, u109, u110, u111, u112, u113, u114, u115, u116, u117, u118, u119, u120, u121, u122, u123, u124, u125, u126, u127, u128, u129, u130, u131, u132, u133, u134, u135, u136, u137, u138, u139, u140, u141, u142, u143, u144, u145, u146, u147, u148, u149, u150, u151, u152, u153, u154, u155, u156, u157, u158, u159, u160, u161, u162, u163, u164, u165, u166, u167, u168, u169, u170, u171, u172, u173, u174, u175, u176, u177, u178, u179, u180, u181, u182, u183, u184, u185, u186, u187, u188, u189, u190, u191, u192, u193, u194, u195, u196, u197, u198, u199, u200, u201, u202, u203, u204, u205, u206, u207, u208, u209, u210, u211, u212, u213, u214, u215, u216, u217, u218, u219, u220, u221, u222, u223, u224, u225, u226, u227, u228, u229, u230, u231, u232, u233, u234, u235, u236, u237, u238, u239, u240, u241, u242, u243, u244, u245, u246, u247, u248, u249, u250, u251, u252, u253, u254, u255, u256, u257, u258, u259, u260, u261, u262, u263, u264, u265, u266, u267, u268, u269, u270, u271, u272, u273, u274, u275, u276, u277, u278, u279, u280, u281, u282, u283, u284, u285, u286, u287, u288, u289, u290, u291, u292, u293, u294, u295, u296, u297, u298, u299, u300, u301, u302, u303, u304, u305, u306, u307, u308, u309, u310, u311, u312, u313, u314, u315, u316, u317, u318, u319, u320, u321, u322, u323, u324, u325, u326, u327, u328, u329, u330, u331, u332, u333, u334, u335, u336, u337, u338, u339, u340, u341, u342, u343, u344, u345, u346, u347, u348, u349, u350, u351, u352, u353, u354, u355, u356, u357, u358, u359, u360, u361, u362, u363, u364, u365, u366, u367, u368, u369, u370, u371, u372, u373, u374, u375, u376, u377, u378, u379, u380, u381, u382, u383, u384, u385, u386, u387, u388, u389, u390, u391, u392, u393, u394, u395, u396, u397, u398, u399, u400, u401, u402, u403, u404, u405, u406, u407, u408, u409, u410, u411, u412, u413, u414, u415, u416, u417, u418, u419, u420, u421, u422, u423, u424, u425, u426, u427, u428, u429, u430, u431, u432, u433, u434, u435, u436, u437, u438, u439, u440, u441, u442, u443, u444, u445, u446, u447, u448, u449, u450, u451, u452, u453, u454, u455, u456, u457, u458, u459, u460, u461, u462, u463, u464, u465, u466, u467, u468, u469, u470, u471, u472, u473, u474, u475, u476, u477, u478, u479, u480, u481, u482, u483, u484, u485, u486, u487, u488, u489, u490, u491, u492, u493, u494, u495, u496, u497, u498, u499, u500, u501, u502, u503, u504, u505, u506, u507, u508, u509, u510, u511, u512, u513, u514, u515, u516, u517, u518, u519, u520, u521, u522, u523, u524, u525, u526, u527, u528, u529, u530, u531, u532, u533, u534, u535, u536, u537, u538, u539, u540, u541, u542, u543, u544, u545, u546, u547, u548, u549, u550, u551, u552, u553, u554, u555, u556, u557, u558, u559, u560, u561, u562, u563, u564, u565, u566, u567, u568, u569, u570, u571, u572, u573, u574, u575, u576, u577, u578, u579, u580, u581, u582, u583, u584, u585, u586, u587, u588, u589, u590, u591, u592, u593, u594, u595, u596, u597, u598, u599, u600, u601, u602, u603, u604, u605, u606, u607, u608, u609, u610, u611, u612, u613, u614, u615, u616, u617, u618, u619, u620, u621, u622, u623, u624, u625, u626, u627, u628, u629, u630, u631, u632, u633, u634, u635, u636, u637, u638, u639, u640, u641, u642, u643, u644, u645, u646, u647, u648, u649, u650, u651, u652, u653, u654, u655, u656, u657, u658, u659, u660, u661, u662, u663, u664, u665, u666, u667, u668, u669, u670, u671, u672, u673, u674, u675, u676, u677, u678, u679, u680, u681, u682, u683, u684, u685, u686, u687, u688, u689, u690, u691, u692, u693, u694, u695, u696, u697, u698, u699, u700, u701, u702, u703, u704, u705, u706, u707, u708, u709, u710, u711, u712, u713, u714, u715, u716, u717, u718, u719, u720, u721, u722, u723, u724, u725, u726, u727, u728, u729, u730, u731, u732, u733, u734, u735, u736, u737, u738, u739, u740, u741, u742, u743, u744, u745, u746, u747, u748, u749, u750, u751, u752, u753, u754, u755, u756, u757, u758, u759, u760], []⟩ w := by
  have hn' : (n : Int) ≤ 65536 := by omega
  dsimp only
  conv => arg 2; whnf
  go_wp2_with fail
  go_loopw [12, 20, 21, 22, 23, 24, 25, 26, 27, 28] (fun v12 v20 v21 _ _ _ _ _ _ _ wr => ∃ k M V acc vs vw D, k ≤ n ∧ v21 = vi (k : Nat) ∧ vs = v12 ∧ vw = v20 ∧ Mdl w0 D0 M0 bS bA (Bd + k) (Bd + k) k M V acc vs vw D wr ∧ ∀ M' acc', Whole L n M k acc M' acc' → Whole L n M0 0 [] M' acc') (fun _ _ x _ _ _ _ _ _ _ _ => n - (intOf x).toNat)
  case atStart => exact ⟨0, M0, V0, [], _, _, D, by omega, rfl, rfl, rfl, d0, fun _ _ x => x⟩
  case round =>
    clear d0
    obtain ⟨k, M, V, acc, vs, vw, D, hk, rfl, rfl, rfl, d, hwh⟩ := hrel
    by_cases hlt : k < n
    · have z1 : (k : Int) < n := by omega
      have hf := hL6 k hlt
      have zf : (L k : Int) < 6 := by omega
      have hLD := (d.same .L rfl).trans hL
      have ck := d.h.cell hLD (i := k) (rowF_get hlt)
      have cS := d.h.cell d.md.fs (i := L k) (rowF_get hf)
      have cA := d.h.cell d.md.fa (i := L k) (rowF_get hf)
      have dwf := d.wf
      go_upto_if 152 with fail
      go_cut [12, 23, 24, 152] from 153 to 158 (fun v12 v23 v24 _ wc => ∃ M1 s p V1 D1 vs1, vs1 = v12 ∧ v23 = vi (s : Nat) ∧ v24 = vi (p : Nat) ∧ begin_ M (L k) = (M1, s, p) ∧ Mdl w0 D0 M0 bS bA (Bd + k + 1) (Bd + k) k M1 V1 acc vs1 vw D1 wc)
      case first =>
        rcases dwf.file (L k) hf with hS | ⟨s, hS, hs1, hs2, hs3⟩
        · have hneg : M.S (L k) < 0 := by omega
          clear hS
          obtain ⟨sa, sc, rfl, -⟩ := d.md.sts.read (len := M.ns) (stsF_length _ _)
          have hN := fun cs : List Value => d.h.new (.x 2) (row cs 76)
          have hNs := fun cs : List Value => d.md.sts.other (t' := .x 2) (by simp) wr.heap.size (row cs 76)
          have hNr := fun cs : List Value => Row.new wr 76 cs
          have l1 : (stsF M.ns V).length ≤ 10000000 := by rw [stsF_length]; have := d.nsB; omega
          go_wp2_with (at_builtin; refine wpList_append_sl (c := 1) rfl (.tmp 155) (.tmp 157) 71 rfl elem71 (hN _) (hNs _) rfl rfl (hNr _) rfl (by simp [Value.oneCell']) l1 ?_; intro g k' cap2 w' o' hk' h4 hs4)
          go_meet
          exact ⟨M.open_, M.ns, 0, _, _, _, rfl, rfl, rfl, by rw [begin_, if_pos hneg], d.open_ h4 hs4 (fun t ht h1 => by rw [upd_other h1, upd_other (ht 2)])⟩
        · have hpos : ¬ M.S (L k) < 0 := by omega
          have e1 : (M.S (L k)).toNat = s := by omega
          have hS' : Shut (M.S (L k) = s) := hS
          clear hS
          go_wp2_with fail
          go_meet
          exact ⟨M, s, M.At (L k), V, D, _, rfl, by rw [hS'.out], rfl, by rw [begin_, if_neg (by omega), e1], d.bounds (by omega) (Nat.le_refl _) d.accB⟩
      case rest =>
        clear d ck cS cA hLD
        obtain ⟨M1, s, p, V1, D1, vs1, rfl, rfl, rfl, hbg, d1⟩ := hcut
        obtain ⟨wf1, hs1, hp1, -⟩ := begin_spec dwf hf hbg
        have hnsB := d1.nsB
        have hlnB := d1.lnB s
        have haccB := d1.accB
        obtain ⟨⟨i1, q⟩, hR⟩ : ∃ R, mrun M1 L n s (n - k) k p = R := ⟨_, rfl⟩
        obtain ⟨hm1, hm2, hm3, hm4⟩ := mrun_spec _ _ _ hR hk hp1
        have hpg := progress1 dwf hlt hf hbg hR
        go_upto_block 12 with fail
        refine code_gen (fun c hc => ?_)
        rw [show c = B3 12 from hc.trans (by kernel_rfl)]
        clear hc
        refine block12 d1.h d1.md ((d1.same .L rfl).trans hL) hs1 hk hp1 hn (by omega) (by omega) hR ?_
        intro t160 t161 t162 t163 t164 t165 t166 t167 t168 t169 t170 t171 t172 t173 t174 t175 t176 t177 t178 t179 t180 t181 t182 t183 t184 t185 t186 t187 t188 t189 t190 t191 t192 w2 hh2
        have d2 := d1.scratch hh2 (fun _ _ => rfl)
        clear d1 hh2
        have hA : (acc ++ legsOf M1 s q (q - p) p).length ≤ i1 := by
          have := legsOf_length (M := M1) (s := s) (q := q) (q - p) p
          rw [List.length_append]; omega
        go_upto_block 14 with fail
        refine code_gen (fun c hc => ?_)
        rw [show c = B3 14 from hc.trans (by kernel_rfl)]
        clear hc
        refine block14 (a' := i1) d2 hs1 (by omega) hm3 hA (by omega) (by omega) (by omega) ?_
        intro t26 t27 t194 t195 t196 t197 t198 t199 t200 t201 t202 t203 t204 t205 t206 t207 t208 t209 t210 t211 t212 t213 t214 t215 t216 t217 t218 t219 t220 t221 t222 t223 t224 t225 t226 t227 t228 t229 t230 w3 D3 vw3 d3
        clear d2
        generalize hAe : acc ++ legsOf M1 s q (q - p) p = A at *
        obtain ⟨gs, cap, spare, rfl, -, -, g3⟩ := d3.md.sts.open_ (len := M1.ns) (stsF_length _ _) (by omega)
        obtain ⟨r2, -, -⟩ := d3.md.st s hs1
        obtain ⟨la, lc, hv, -⟩ := r2.read (len := M1.ln s) (by simp [intsF, rowF_length])
        have x0 := d3.h.cell g3 (i := s * 3) (v := .slice la (M1.ln s) lc) (by rw [List.getElem?_append_left (by rw [stsF_length]; omega)]; exact stsF_get (by omega) (by rw [stF_0, hv]))
        have z0 : (s : Int) < M1.ns := by omega
        have hfin : ∀ M2 i2 V2 D4 tl vw4 wc vs2, tail L n s M1 i1 q = (M2, i2, tl) → i2 ≤ n → Mdl w0 D0 M0 bS bA (Bd + i2) (Bd + i2) i2 M2 V2 (A ++ tl) vs2 vw4 D4 wc → ∃ k M V acc vs vw D, k ≤ n ∧ vi (i2 : Nat) = vi (k : Nat) ∧ vs = vs2 ∧ vw = vw4 ∧ Mdl w0 D0 M0 bS bA (Bd + k) (Bd + k) k M V acc vs vw D wc ∧ ∀ M' acc', Whole L n M k acc M' acc' → Whole L n M0 0 [] M' acc' :=
          fun M2 i2 V2 D4 tl vw4 wc vs2 htl hn2 d4 => ⟨i2, M2, V2, A ++ tl, _, _, D4, hn2, rfl, rfl, rfl, d4, fun M' acc' hw => hwh M' acc' (Whole.step hlt (by
            rw [round_eq hbg hR htl]
            show Whole L n M2 i2 (acc ++ (legsOf M1 s q (q - p) p ++ tl)) M' acc'
            rw [← List.append_assoc, hAe]; exact hw))⟩
        by_cases hq : q = M1.ln s
        · obtain ⟨⟨M9, i9⟩, hE⟩ : ∃ R, ext L n s (n - i1) M1 i1 = R := ⟨_, rfl⟩
          have hpr := progress2 hlt hpg hE
          have htl := tail_ext hq hE
          have hq0 := hq.symm
          clear hq
          go_upto_block 16 with fail
          refine code_gen (fun c hc => ?_)
          rw [show c = B3 16 from hc.trans (by kernel_rfl)]
          clear hc
          refine block16 (q := q) d3 hL hL6 hs1 hq0 hm2 hn (by omega) hE ?_
          intro t240 t241 t242 t243 t244 t245 t246 t247 t248 t249 t250 t251 t252 t253 t254 t255 t256 t257 t258 t259 t260 t261 t262 t263 t264 t265 t266 t267 t268 t269 t270 t271 t272 t273 t274 t275 t276 t277 t278 t279 t280 t281 t282 t283 t284 t285 t286 t287 t288 t289 t290 t291 t292 t293 t294 t295 t296 t297 t298 t299 t300 t301 t302 t303 t304 t305 t306 t307 t308 t309 w4 D4 V4 hs9 hq9 hi9 hn9 d9
          clear d3 x0 g3 r2
          by_cases hgt : q < M9.ln s
          · have z2 : (q : Int) < M9.ln s := by omega
            rw [if_pos hgt] at htl
            have hN := fun cs : List Value => d9.h.new (.x 2) (row cs 80)
            have hNs := fun cs : List Value => d9.wt.other (t' := .x 2) (by simp) w4.heap.size (row cs 80)
            have hNr := fun cs : List Value => Row.new w4 80 cs
            have hlegs : (legsM A).length ≤ 10000000 := by rw [legsM_length]; omega
            go_wp2_with (at_builtin; refine wpList_append_sl (c := 1) rfl (.tmp 313) (.tmp 318) 73 rfl elem73 (hN _) (hNs _) rfl rfl (hNr _) rfl (by simp [Value.oneCell']) hlegs ?_; intro g k' cap2 w' o' hk' h4 hs4)
            have dl := d9.leg ⟨s, q, M9.ln s, nopl⟩ hs9 h4 hs4 (fun t ht h1 => by rw [upd_other h1, upd_other (ht 2)]) (a' := i9) (by omega)
            go_roundw
            case rel => exact hfin M9 i9 V4 _ _ _ _ _ htl hn9 (dl.bounds (by omega) (by omega) dl.accB)
            case measure => simp [intOf]; omega
          · have z2 : ¬ (q : Int) < M9.ln s := by omega
            rw [if_neg hgt] at htl
            go_wp2_with fail
            go_roundw
            case rel => exact hfin M9 i9 V4 D4 [] _ _ _ htl hn9 (by rw [List.append_nil]; exact d9.bounds (by omega) (by omega) (by omega))
            case measure => simp [intOf]; omega
        · have hki : k < i1 := by
            rcases hpg with h | ⟨_, h, _⟩
            · exact h
            · exact absurd h hq
          have htl := tail_ne (L := L) (n := n) (i := i1) hq
          have z2 : ¬ (q : Int) = M1.ln s := by omega
          go_wp2_with fail
          go_roundw
          case rel => exact hfin M1 i1 V1 D3 [] _ _ _ htl hm2 (by rw [List.append_nil]; exact d3.bounds (by omega) (by omega) (by omega))
          case measure => simp [intOf]; omega
    · obtain rfl : k = n := by omega
      go_wp2_with fail
      exact hQ (hwh _ _ (Whole.stop (by omega))) d
end Go.Proofs.Ybulkeaca.CW
