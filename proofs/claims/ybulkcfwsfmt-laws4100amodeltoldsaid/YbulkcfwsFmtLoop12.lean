import Derived.Test.YbulkcfwsFmtLawV
namespace Go.Proofs.YbulkcfwsFmt
open Go.RowKit

set_option maxHeartbeats 20000000 in
set_option maxRecDepth 100000 in
theorem loop12 (W0 W : World) (A bC bN s : Nat) (P : Nat → Bool) (L : List Rel) (d : Int) (K : Act → World → Prop) (Q' : Exit → Act → World → Prop) (u0 u1 u2 u3 u4 u5 u6 u7 u8 u9 u10 u11 u12 u14 u22 u23 u24 u25 u26 u27 u28 u29 u30 u31 u32 u33 u34 u35 u36 u37 u38 u39 u40 u41 u42 u43 u44 u45 u46 u47 u48 u49 u50 u51 u52 u53 u54 u55 u56 u58 u62 u63 u64 u65 u66 u67 u68 u69 u70 u71 u72 u73 u74 u75 u76 u77 u78 u79 u80 u81 u82 u83 u84 u85 u86 u87 u88 u89 u90 u91 u92 u93 u94 u95 u96 u97 u98 u99 u100 u101 u102 u103 u104 u105 u106 u107 u108 u109 u110 u111 u112 u113 u114 u115 u116 u117 u118 u119 u120 u121 u122 u123 u124 u125 u126 u127 u128 u129 u130 u131 u132 u133 u134 u135 u136 u137 u138 u139 u140 u141 u142 u143 u144 u145 u146 u147 u148 u149 u150 u151 u152 u153 u154 u155 u156 u157 u158 u159 u160 u161 u162 u163 u164 u165 u166 u167 u168 u169 u170 u171 u172 u173 u174 u175 u176 u177 u178 u179 u180 u181 u182 u183 u184 u185 u186 u187 u188 u189 u190 u191 u192 u193 u194 u195 u196 u197 u198 u199 u200 u201 u202 u203 u204 u205 u206 u207 u208 u209 u210 u211 u212 u213 u214 u215 u216 u217 u218 u219 u220 u221 u222 u223 u224 u225 u226 u227 u228 u229 u230 u231 u232 u233 u234 u235 u236 u237 u238 u239 u240 u241 u242 u243 u244 u245 u246 u247 u248 u249 u250 u251 u252 u253 u254 u255 u256 u257 u258 u259 u260 u261 u262 u263 u264 u265 u266 u267 u268 u269 u270 u271 u272 u273 u274 u275 u276 u277 u278 u279 u280 u281 u282 u283 u284 u285 u286 u287 u288 u289 u290 u291 u292 u293 u294 u295 u296 u297 u298 u299 u300 u301 u302 u303 u304 u305 u306 u307 u308 u309 u310 u311 u312 u313 u314 u315 u316 u317 u318 u319 u320 u321 u322 u323 u324 u325 u326 u327 u328 u329 u330 u331 u332 u333 u334 u335 u336 u337 u338 u339 u340 u341 u342 u343 u344 u345 u346 u347 u348 u349 u350 u351 u352 u353 u354 u355 u356 u357 u358 u359 u360 u361 u362 u363 u364 u365 u366 u367 u368 u369 u370 u371 u372 u373 u374 u375 u376 u377 u378 u379 u380 u381 u382 u383 u384 u385 u386 u387 u388 u389 u390 u391 u392 u393 u394 u395 u396 u397 u398 u399 u400 u401 u402 u403 u404 u405 u406 u407 u408 u409 u410 u411 u412 u413 u414 u415 u416 u417 u418 u419 u420 u421 u422 u423 u424 u425 u426 u427 u428 u429 u430 u431 u432 u433 u434 u435 u436 u437 u438 u439 u440 u441 u442 u443 u444 u445 u446 u447 u448 u449 u450 u451 u452 u453 u454 u455 u456 u457 u458 u459 u460 u461 u462 u463 u464 u465 u466 u467 u468 u469 u470 u471 u472 u473 u474 u475 u476 u477 u478 u479 u480 u481 u482 u483 u484 u485 u486 u487 u488 u489 u490 u491 u492 u493 u494 u495 u496 u497 u498 u499 u500 u501 u502 u503 u504 u505 u506 u507 u508 u509 u510 u511 u512 u513 u514 u515 u516 u517 u518 u519 u520 u521 u522 u523 u524 u525 u526 u527 u528 u529 u530 u531 u532 u533 u534 u535 u536 u537 u538 u539 u540 u541 u542 u543 u544 u545 u546 u547 u548 u549 u550 u551 u552 u553 u554 u555 u556 u557 u558 u559 u560 u561 u562 u563 u564 u565 u566 u567 u568 u569 u570 u571 u572 u573 u574 u575 u576 u577 u578 u579 u580 u581 : Value)
    (hL : L.length ≤ 32) (hs : s < 5) (hlN : W0.heap.size ≤ bN) (hCN : bC ≠ bN)
    (HG : Hid (∀ i, i < L.length → (L.getD i r0).ok)) (HR : Hid (∀ j, j < 7 → W0.rowIs (A + j) (arrT j) L.length (arrV L d j)))
    (HB : Hid (Below W0.heap.size W0 W)) (HC : Hid (Arr W bC P)) (HN : Hid (Arr W bN fun _ => false))
    (hK : ∀ (x61 x501 x502 x503 x504 x505 x506 x507 x508 x509 x510 x511 x512 x513 x514 x515 x516 x517 x518 x519 x520 x521 x522 x523 x524 x525 x526 x527 x528 x529 x530 x531 x532 x533 x534 x535 x536 x537 x538 x539 x540 x541 x542 x543 x544 x545 x546 x547 x548 x549 x550 x551 x552 x553 x554 x555 : Value) (w' : World), Hid (Below W0.heap.size W0 w') → Hid (Arr w' bC P) → Hid (Arr w' bN (curK L d s P L.length)) → K ⟨#[u0, u1, u2, u3, u4, u5, u6, u7, u8, u9, u10, u11, u12, .int .i64 (L.length : Nat), u14, .slice (some ⟨A, 0, none⟩) L.length L.length, .slice (some ⟨(A + 1), 0, none⟩) L.length L.length, .slice (some ⟨(A + 2), 0, none⟩) L.length L.length, .slice (some ⟨(A + 3), 0, none⟩) L.length L.length, .slice (some ⟨(A + 4), 0, none⟩) L.length L.length, .slice (some ⟨(A + 5), 0, none⟩) L.length L.length, .slice (some ⟨(A + 6), 0, none⟩) L.length L.length, u22, u23, u24, u25, u26, u27, u28, u29, u30, u31, u32, u33, u34, u35, u36, u37, u38, u39, u40, u41, u42, u43, u44, u45, u46, u47, u48, u49, u50, u51, u52, u53, u54, u55, u56, .pointer (some ⟨bC, 0, none⟩), u58, .int .i64 (s : Nat), .pointer (some ⟨bN, 0, none⟩), x61, u62, u63, u64, u65, u66, u67, u68, u69, u70, u71, u72, u73, u74, u75, u76, u77, u78, u79, u80, u81, u82, u83, u84, u85, u86, u87, u88, u89, u90, u91, u92, u93, u94, u95, u96, u97, u98, u99, u100, u101, u102, u103, u104, u105, u106, u107, u108, u109, u110, u111, u112, u113, u114, u115, u116, u117, u118, u119, u120, u121, u122, u123, u124, u125, u126, u127, u128, u129, u130, u131, u132, u133, u134, u135, u136, u137, u138, u139, u140, u141, u142, u143, u144, u145, u146, u147, u148, u149, u150, u151, u152, u153, u154, u155, u156, u157, u158, u159, u160, u161, u162, u163, u164, u165, u166, u167, u168, u169, u170, u171, u172, u173, u174, u175, u176, u177, u178, u179, u180, u181, u182, u183, u184, u185, u186, u187, u188, u189, u190, u191, u192, u193, u194, u195, u196, u197, u198, u199, u200, u201, u202, u203, u204, u205, u206, u207, u208, u209, u210, u211, u212, u213, u214, u215, u216, u217, u218, u219, u220, u221, u222, u223, u224, u225, u226, u227, u228, u229, u230, u231, u232, u233, u234, u235, u236, u237, u238, u239, u240, u241, u242, u243, u244, u245, u246, u247, u248, u249, u250, u251, u252, u253, u254, u255, u256, u257, u258, u259, u260, u261, u262, u263, u264, u265, u266, u267, u268, u269, u270, u271, u272, u273, u274, u275, u276, u277, u278, u279, u280, u281, u282, u283, u284, u285, u286, u287, u288, u289, u290, u291, u292, u293, u294, u295, u296, u297, u298, u299, u300, u301, u302, u303, u304, u305, u306, u307, u308, u309, u310, u311, u312, u313, u314, u315, u316, u317, u318, u319, u320, u321, u322, u323, u324, u325, u326, u327, u328, u329, u330, u331, u332, u333, u334, u335, u336, u337, u338, u339, u340, u341, u342, u343, u344, u345, u346, u347, u348, u349, u350, u351, u352, u353, u354, u355, u356, u357, u358, u359, u360, u361, u362, u363, u364, u365, u366, u367, u368, u369, u370, u371, u372, u373, u374, u375, u376, u377, u378, u379, u380, u381, u382, u383, u384, u385, u386, u387, u388, u389, u390, u391, u392, u393, u394, u395, u396, u397, u398, u399, u400, u401, u402, u403, u404, u405, u406, u407, u408, u409, u410, u411, u412, u413, u414, u415, u416, u417, u418, u419, u420, u421, u422, u423, u424, u425, u426, u427, u428, u429, u430, u431, u432, u433, u434, u435, u436, u437, u438, u439, u440, u441, u442, u443, u444, u445, u446, u447, u448, u449, u450, u451, u452, u453, u454, u455, u456, u457, u458, u459, u460, u461, u462, u463, u464, u465, u466, u467, u468, u469, u470, u471, u472, u473, u474, u475, u476, u477, u478, u479, u480, u481, u482, u483, u484, u485, u486, u487, u488, u489, u490, u491, u492, u493, u494, u495, u496, u497, u498, u499, u500, x501, x502, x503, x504, x505, x506, x507, x508, x509, x510, x511, x512, x513, x514, x515, x516, x517, x518, x519, x520, x521, x522, x523, x524, x525, x526, x527, x528, x529, x530, x531, x532, x533, x534, x535, x536, x537, x538, x539, x540, x541, x542, x543, x544, x545, x546, x547, x548, x549, x550, x551, x552, x553, x554, x555, u556, u557, u558, u559, u560, u561, u562, u563, u564, u565, u566, u567, u568, u569, u570, u571, u572, u573, u574, u575, u576, u577, u578, u579, u580, u581], []⟩ w') :
    Code.wp Ybaf.prog ((blockAt 22 (Ybaf.f3.body.getD .skip)).getD .skip) (Exit.then K Q')
      ⟨#[u0, u1, u2, u3, u4, u5, u6, u7, u8, u9, u10, u11, u12, .int .i64 (L.length : Nat), u14, .slice (some ⟨A, 0, none⟩) L.length L.length, .slice (some ⟨(A + 1), 0, none⟩) L.length L.length, .slice (some ⟨(A + 2), 0, none⟩) L.length L.length, .slice (some ⟨(A + 3), 0, none⟩) L.length L.length, .slice (some ⟨(A + 4), 0, none⟩) L.length L.length, .slice (some ⟨(A + 5), 0, none⟩) L.length L.length, .slice (some ⟨(A + 6), 0, none⟩) L.length L.length, u22, u23, u24, u25, u26, u27, u28, u29, u30, u31, u32, u33, u34, u35, u36, u37, u38, u39, u40, u41, u42, u43, u44, u45, u46, u47, u48, u49, u50, u51, u52, u53, u54, u55, u56, .pointer (some ⟨bC, 0, none⟩), u58, .int .i64 (s : Nat), .pointer (some ⟨bN, 0, none⟩), .int .i64 0, u62, u63, u64, u65, u66, u67, u68, u69, u70, u71, u72, u73, u74, u75, u76, u77, u78, u79, u80, u81, u82, u83, u84, u85, u86, u87, u88, u89, u90, u91, u92, u93, u94, u95, u96, u97, u98, u99, u100, u101, u102, u103, u104, u105, u106, u107, u108, u109, u110, u111, u112, u113, u114, u115, u116, u117, u118, u119, u120, u121, u122, u123, u124, u125, u126, u127, u128, u129, u130, u131, u132, u133, u134, u135, u136, u137, u138, u139, u140, u141, u142, u143, u144, u145, u146, u147, u148, u149, u150, u151, u152, u153, u154, u155, u156, u157, u158, u159, u160, u161, u162, u163, u164, u165, u166, u167, u168, u169, u170, u171, u172, u173, u174, u175, u176, u177, u178, u179, u180, u181, u182, u183, u184, u185, u186, u187, u188, u189, u190, u191, u192, u193, u194, u195, u196, u197, u198, u199, u200, u201, u202, u203, u204, u205, u206, u207, u208, u209, u210, u211, u212, u213, u214, u215, u216, u217, u218, u219, u220, u221, u222, u223, u224, u225, u226, u227, u228, u229, u230, u231, u232, u233, u234, u235, u236, u237, u238, u239, u240, u241, u242, u243, u244, u245, u246, u247, u248, u249, u250, u251, u252, u253, u254, u255, u256, u257, u258, u259, u260, u261, u262, u263, u264, u265, u266, u267, u268, u269, u270, u271, u272, u273, u274, u275, u276, u277, u278, u279, u280, u281, u282, u283, u284, u285, u286, u287, u288, u289, u290, u291, u292, u293, u294, u295, u296, u297, u298, u299, u300, u301, u302, u303, u304, u305, u306, u307, u308, u309, u310, u311, u312, u313, u314, u315, u316, u317, u318, u319, u320, u321, u322, u323, u324, u325, u326, u327, u328, u329, u330, u331, u332, u333, u334, u335, u336, u337, u338, u339, u340, u341, u342, u343, u344, u345, u346, u347, u348, u349, u350, u351, u352, u353, u354, u355, u356, u357, u358, u359, u360, u361, u362, u363, u364, u365, u366, u367, u368, u369, u370, u371, u372, u373, u374, u375, u376, u377, u378, u379, u380, u381, u382, u383, u384, u385, u386, u387, u388, u389, u390, u391, u392, u393, u394, u395, u396, u397, u398, u399, u400, u401, u402, u403, u404, u405, u406, u407, u408, u409, u410, u411, u412, u413, u414, u415, u416, u417, u418, u419, u420, u421, u422, u423, u424, u425, u426, u427, u428, u429, u430, u431, u432, u433, u434, u435, u436, u437, u438, u439, u440, u441, u442, u443, u444, u445, u446, u447, u448, u449, u450, u451, u452, u453, u454, u455, u456, u457, u458, u459, u460, u461, u462, u463, u464, u465, u466, u467, u468, u469, u470, u471, u472, u473, u474, u475, u476, u477, u478, u479, u480, u481, u482, u483, u484, u485, u486, u487, u488, u489, u490, u491, u492, u493, u494, u495, u496, u497, u498, u499, u500, u501, u502, u503, u504, u505, u506, u507, u508, u509, u510, u511, u512, u513, u514, u515, u516, u517, u518, u519, u520, u521, u522, u523, u524, u525, u526, u527, u528, u529, u530, u531, u532, u533, u534, u535, u536, u537, u538, u539, u540, u541, u542, u543, u544, u545, u546, u547, u548, u549, u550, u551, u552, u553, u554, u555, u556, u557, u558, u559, u560, u561, u562, u563, u564, u565, u566, u567, u568, u569, u570, u571, u572, u573, u574, u575, u576, u577, u578, u579, u580, u581], []⟩ W := by
  let Qx : Exit → Act → World → Prop := bodyPost Ybaf.prog Ybaf.f3 fun _ _ => True
  have HK : Hid (∀ (x61 x501 x502 x503 x504 x505 x506 x507 x508 x509 x510 x511 x512 x513 x514 x515 x516 x517 x518 x519 x520 x521 x522 x523 x524 x525 x526 x527 x528 x529 x530 x531 x532 x533 x534 x535 x536 x537 x538 x539 x540 x541 x542 x543 x544 x545 x546 x547 x548 x549 x550 x551 x552 x553 x554 x555 : Value) (w' : World), Hid (Below W0.heap.size W0 w') → Hid (Arr w' bC P) → Hid (Arr w' bN (curK L d s P L.length)) → K ⟨#[u0, u1, u2, u3, u4, u5, u6, u7, u8, u9, u10, u11, u12, .int .i64 (L.length : Nat), u14, .slice (some ⟨A, 0, none⟩) L.length L.length, .slice (some ⟨(A + 1), 0, none⟩) L.length L.length, .slice (some ⟨(A + 2), 0, none⟩) L.length L.length, .slice (some ⟨(A + 3), 0, none⟩) L.length L.length, .slice (some ⟨(A + 4), 0, none⟩) L.length L.length, .slice (some ⟨(A + 5), 0, none⟩) L.length L.length, .slice (some ⟨(A + 6), 0, none⟩) L.length L.length, u22, u23, u24, u25, u26, u27, u28, u29, u30, u31, u32, u33, u34, u35, u36, u37, u38, u39, u40, u41, u42, u43, u44, u45, u46, u47, u48, u49, u50, u51, u52, u53, u54, u55, u56, .pointer (some ⟨bC, 0, none⟩), u58, .int .i64 (s : Nat), .pointer (some ⟨bN, 0, none⟩), x61, u62, u63, u64, u65, u66, u67, u68, u69, u70, u71, u72, u73, u74, u75, u76, u77, u78, u79, u80, u81, u82, u83, u84, u85, u86, u87, u88, u89, u90, u91, u92, u93, u94, u95, u96, u97, u98, u99, u100, u101, u102, u103, u104, u105, u106, u107, u108, u109, u110, u111, u112, u113, u114, u115, u116, u117, u118, u119, u120, u121, u122, u123, u124, u125, u126, u127, u128, u129, u130, u131, u132, u133, u134, u135, u136, u137, u138, u139, u140, u141, u142, u143, u144, u145, u146, u147, u148, u149, u150, u151, u152, u153, u154, u155, u156, u157, u158, u159, u160, u161, u162, u163, u164, u165, u166, u167, u168, u169, u170, u171, u172, u173, u174, u175, u176, u177, u178, u179, u180, u181, u182, u183, u184, u185, u186, u187, u188, u189, u190, u191, u192, u193, u194, u195, u196, u197, u198, u199, u200, u201, u202, u203, u204, u205, u206, u207, u208, u209, u210, u211, u212, u213, u214, u215, u216, u217, u218, u219, u220, u221, u222, u223, u224, u225, u226, u227, u228, u229, u230, u231, u232, u233, u234, u235, u236, u237, u238, u239, u240, u241, u242, u243, u244, u245, u246, u247, u248, u249, u250, u251, u252, u253, u254, u255, u256, u257, u258, u259, u260, u261, u262, u263, u264, u265, u266, u267, u268, u269, u270, u271, u272, u273, u274, u275, u276, u277, u278, u279, u280, u281, u282, u283, u284, u285, u286, u287, u288, u289, u290, u291, u292, u293, u294, u295, u296, u297, u298, u299, u300, u301, u302, u303, u304, u305, u306, u307, u308, u309, u310, u311, u312, u313, u314, u315, u316, u317, u318, u319, u320, u321, u322, u323, u324, u325, u326, u327, u328, u329, u330, u331, u332, u333, u334, u335, u336, u337, u338, u339, u340, u341, u342, u343, u344, u345, u346, u347, u348, u349, u350, u351, u352, u353, u354, u355, u356, u357, u358, u359, u360, u361, u362, u363, u364, u365, u366, u367, u368, u369, u370, u371, u372, u373, u374, u375, u376, u377, u378, u379, u380, u381, u382, u383, u384, u385, u386, u387, u388, u389, u390, u391, u392, u393, u394, u395, u396, u397, u398, u399, u400, u401, u402, u403, u404, u405, u406, u407, u408, u409, u410, u411, u412, u413, u414, u415, u416, u417, u418, u419, u420, u421, u422, u423, u424, u425, u426, u427, u428, u429, u430, u431, u432, u433, u434, u435, u436, u437, u438, u439, u440, u441, u442, u443, u444, u445, u446, u447, u448, u449, u450, u451, u452, u453, u454, u455, u456, u457, u458, u459, u460, u461, u462, u463, u464, u465, u466, u467, u468, u469, u470, u471, u472, u473, u474, u475, u476, u477, u478, u479, u480, u481, u482, u483, u484, u485, u486, u487, u488, u489, u490, u491, u492, u493, u494, u495, u496, u497, u498, u499, u500, x501, x502, x503, x504, x505, x506, x507, x508, x509, x510, x511, x512, x513, x514, x515, x516, x517, x518, x519, x520, x521, x522, x523, x524, x525, x526, x527, x528, x529, x530, x531, x532, x533, x534, x535, x536, x537, x538, x539, x540, x541, x542, x543, x544, x545, x546, x547, x548, x549, x550, x551, x552, x553, x554, x555, u556, u557, u558, u559, u560, u561, u562, u563, u564, u565, u566, u567, u568, u569, u570, u571, u572, u573, u574, u575, u576, u577, u578, u579, u580, u581], []⟩ w') := hK
  clear hK
  conv => arg 2; whnf
  go_wp2_with fail
  go_loopw [61] (fun i wr => ∃ k : Nat, k ≤ L.length ∧ i = .int .i64 k ∧ Hid (Below W0.heap.size W0 wr) ∧ Hid (Arr wr bC P) ∧ Hid (Arr wr bN (curK L d s P k))) (fun i _ => L.length - (intOf i).toNat)
  case atStart => exact ⟨0, by omega, rfl, HB, HC, HN⟩
  case round =>
    clear HB HC HN
    obtain ⟨k, hk, rfl, hb, hC, hN⟩ := hrel
    by_cases hlt : k < L.length
    · have y0 : wr.cell? ⟨A, k, none⟩ = some (.int .i64 ((L.getD k r0).ty : Nat)) := (hb.out.cell (p := ⟨A, k, none⟩) (HR.out 0 (by decide)).lt).trans ((HR.out 0 (by decide)).cell hlt)
      have y1 : wr.cell? ⟨A + 1, k, none⟩ = some (.int .i64 ((L.getD k r0).fr : Nat)) := (hb.out.cell (p := ⟨A + 1, k, none⟩) (HR.out 1 (by decide)).lt).trans ((HR.out 1 (by decide)).cell hlt)
      have y2 : wr.cell? ⟨A + 2, k, none⟩ = some (.int .i64 ((L.getD k r0).to : Nat)) := (hb.out.cell (p := ⟨A + 2, k, none⟩) (HR.out 2 (by decide)).lt).trans ((HR.out 2 (by decide)).cell hlt)
      have y4 : wr.cell? ⟨A + 4, k, none⟩ = some (.int .i64 ((L.getD k r0).ti : Nat)) := (hb.out.cell (p := ⟨A + 4, k, none⟩) (HR.out 4 (by decide)).lt).trans ((HR.out 4 (by decide)).cell hlt)
      have y5 : wr.cell? ⟨A + 5, k, none⟩ = some (.bool ((L.getD k r0).on d)) := by
        have h5 := (hb.out.cell (p := ⟨A + 5, k, none⟩) (HR.out 5 (by decide)).lt).trans ((HR.out 5 (by decide)).cell hlt)
        rw [h5]
        show some (Value.bool (decide (k < L.length) && (L.getD k r0).on d)) = _
        rw [decide_eq_true hlt, Bool.true_and]
      have Y1 : Hid (W0.cell? ⟨A + 1, k, none⟩ = some (.int .i64 ((L.getD k r0).fr : Nat))) := (HR.out 1 (by decide)).cell hlt
      have Y2 : Hid (W0.cell? ⟨A + 2, k, none⟩ = some (.int .i64 ((L.getD k r0).to : Nat))) := (HR.out 2 (by decide)).cell hlt
      have Y4 : Hid (W0.cell? ⟨A + 4, k, none⟩ = some (.int .i64 ((L.getD k r0).ti : Nat))) := (HR.out 4 (by decide)).cell hlt
      obtain ⟨hty, hfr, hto, hro, hti⟩ := HG.out k hlt
      have Hst : Hid (∀ q, curK L d s P (k + 1) q = (curK L d s P k q || ((L.getD k r0).ty == 2 && (L.getD k r0).on d && ((P (L.getD k r0).fr && isB (L.getD k r0).ti s false && q == (L.getD k r0).to) || (P (L.getD k r0).to && isB (L.getD k r0).ti s true && q == (L.getD k r0).fr))))) := fun q => curK_succ L d s P k q
      clear hro
      have l1 : A + 1 < W0.heap.size := (HR.out 1 (by decide)).lt
      have l2 : A + 2 < W0.heap.size := (HR.out 2 (by decide)).lt
      have l4 : A + 4 < W0.heap.size := (HR.out 4 (by decide)).lt
      generalize (L.getD k r0).ty = ty at *
      generalize (L.getD k r0).fr = fr at *
      generalize (L.getD k r0).to = dt at *
      generalize (L.getD k r0).ti = ti at *
      generalize (L.getD k r0).on d = on at *
      by_cases h2 : ty = 2
      · subst h2
        cases on
        · have HN1 : Hid (Arr wr bN (curK L d s P (k + 1))) := hN.out.congr (fun q _ => by rw [Hst.out q]; simp)
          go_wp2_with fail
          go_roundw
          case rel => first | exact ⟨k + 1, by omega, by go_num, hb, hC, HN1⟩ | ((repeat apply Exists.intro); refine ⟨?_, rfl⟩; exact ⟨k + 1, by omega, by go_num, hb, hC, HN1⟩)
          case measure => simp [intOf]; omega
        · have zf : wr.cell? ⟨bC, fr, none⟩ = some (.bool (P fr)) := hC.out.cell fr (by omega)
          go_upto_region 104 with fail
          go_cut [531] (fun v wc => v = .bool (P fr && isB ti s false) ∧ wc = wr)
          case first =>
            generalize P fr = pf at *
            cases pf
            · go_wp2_with fail
              go_meet
              case rel => exact ⟨by simp, rfl⟩
            · go_wp2_with fail
              refine (isstep_any ti s false hti hs wr).mono ?_
              rintro e w1 ⟨rfl, rfl⟩
              go_wp2_with fail
              go_meet
              case rel => exact ⟨by simp, rfl⟩
          case rest =>
            obtain ⟨rfl, rfl⟩ := hcut
            obtain ⟨b1, hb1⟩ : ∃ b1, (P fr && isB ti s false) = b1 := ⟨_, rfl⟩
            rw [hb1]
            have Hb1 : Hid ((P fr && isB ti s false) = b1) := hb1
            clear hb1 zf
            go_upto_if 531 with fail
            go_cut [531] (fun _ wc => Hid (Below W0.heap.size W0 wc) ∧ Hid (Arr wc bC P) ∧ Hid (Arr wc bN (fun q => curK L d s P k q || (b1 && q == dt))))
            case first =>
              cases b1
              · go_wp2_with fail
                go_meet
                case rel => exact ⟨hb, hC, hN.out.congr (fun q _ => by simp)⟩
              · have zn := hN.out.cell dt (by omega)
                have gn := hN.out.frozen dt
                have ln := hN.out.lt
                have HA1 : Hid (Below W0.heap.size W0 (wc.setCell ⟨bN, dt, none⟩ (.bool true))) := hb.out.setCell hlN _
                have HA2 : Hid (Arr (wc.setCell ⟨bN, dt, none⟩ (.bool true)) bC P) := hC.out.far hCN
                have HA3 : Hid (Arr (wc.setCell ⟨bN, dt, none⟩ (.bool true)) bN (fun q => curK L d s P k q || (true && q == dt))) := (hN.out.set (q := dt) (by omega) true).congr (fun q _ => by by_cases e : q = dt <;> simp [e])
                go_wp2_with fail
                go_meet
                case rel => exact ⟨HA1, HA2, HA3⟩
            case rest =>
              clear hb hC hN y0 y1 y2 y4 y5
              obtain ⟨hb, hC, hN⟩ := hcut
              have y1 : wc.cell? ⟨A + 1, k, none⟩ = some (.int .i64 (fr : Nat)) := (hb.out.cell (p := ⟨A + 1, k, none⟩) l1).trans Y1.out
              have y2 : wc.cell? ⟨A + 2, k, none⟩ = some (.int .i64 (dt : Nat)) := (hb.out.cell (p := ⟨A + 2, k, none⟩) l2).trans Y2.out
              have y4 : wc.cell? ⟨A + 4, k, none⟩ = some (.int .i64 (ti : Nat)) := (hb.out.cell (p := ⟨A + 4, k, none⟩) l4).trans Y4.out
              have zt : wc.cell? ⟨bC, dt, none⟩ = some (.bool (P dt)) := hC.out.cell dt (by omega)
              go_upto_region 106 with fail
              go_cut [550] (fun v wd => v = .bool (P dt && isB ti s true) ∧ wd = wc)
              case first =>
                generalize P dt = pf at *
                cases pf
                · go_wp2_with fail
                  go_meet
                  case rel => exact ⟨by simp, rfl⟩
                · go_wp2_with fail
                  refine (isstep_any ti s true hti hs wc).mono ?_
                  rintro e w1 ⟨rfl, rfl⟩
                  go_wp2_with fail
                  go_meet
                  case rel => exact ⟨by simp, rfl⟩
              case rest =>
                obtain ⟨rfl, rfl⟩ := hcut
                obtain ⟨b2, hb2⟩ : ∃ b2, (P dt && isB ti s true) = b2 := ⟨_, rfl⟩
                rw [hb2]
                have Hb2 : Hid ((P dt && isB ti s true) = b2) := hb2
                clear hb2 zt
                cases b2
                · have HN1 : Hid (Arr wc bN (curK L d s P (k + 1))) := hN.out.congr (fun q _ => by rw [Hst.out q, Hb1.out, Hb2.out]; simp)
                  go_wp2_with fail
                  go_roundw
                  case rel => first | exact ⟨k + 1, by omega, by go_num, hb, hC, HN1⟩ | ((repeat apply Exists.intro); refine ⟨?_, rfl⟩; exact ⟨k + 1, by omega, by go_num, hb, hC, HN1⟩)
                  case measure => simp [intOf]; omega
                · have zn := hN.out.cell fr (by omega)
                  have gn := hN.out.frozen fr
                  have ln := hN.out.lt
                  have HA1 : Hid (Below W0.heap.size W0 (wc.setCell ⟨bN, fr, none⟩ (.bool true))) := hb.out.setCell hlN _
                  have HA2 : Hid (Arr (wc.setCell ⟨bN, fr, none⟩ (.bool true)) bC P) := hC.out.far hCN
                  have HN1 : Hid (Arr (wc.setCell ⟨bN, fr, none⟩ (.bool true)) bN (curK L d s P (k + 1))) := (hN.out.set (q := fr) (by omega) true).congr (fun q _ => by rw [Hst.out q, Hb1.out, Hb2.out]; exact set_two _ _ _ _ _)
                  go_wp2_with fail
                  go_roundw
                  case rel => first | exact ⟨k + 1, by omega, by go_num, HA1, HA2, HN1⟩ | ((repeat apply Exists.intro); refine ⟨?_, rfl⟩; exact ⟨k + 1, by omega, by go_num, HA1, HA2, HN1⟩)
                  case measure => simp [intOf]; omega
      · have HN1 : Hid (Arr wr bN (curK L d s P (k + 1))) := hN.out.congr (fun q _ => by rw [Hst.out q]; simp [h2])
        have h2' : ((ty : Int) == 2) = false := by simp; omega
        go_wp2_with fail
        go_roundw
        case rel => first | exact ⟨k + 1, by omega, by go_num, hb, hC, HN1⟩ | ((repeat apply Exists.intro); refine ⟨?_, rfl⟩; exact ⟨k + 1, by omega, by go_num, hb, hC, HN1⟩)
        case measure => simp [intOf]; omega
    · obtain rfl : k = L.length := by omega
      go_wp2_with fail
      exact HK.out _ _ _ _ _ _ _ _ _ _ _ _ _ _ _ _ _ _ _ _ _ _ _ _ _ _ _ _ _ _ _ _ _ _ _ _ _ _ _ _ _ _ _ _ _ _ _ _ _ _ _ _ _ _ _ _ _ hb hC hN

end Go.Proofs.YbulkcfwsFmt
