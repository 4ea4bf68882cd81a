import Derived.Test.YbulkcfwsFmtLawV
namespace Go.Proofs.YbulkcfwsFmt
open Go.RowKit

set_option maxHeartbeats 20000000 in
set_option maxRecDepth 100000 in
theorem loop6 (W0 W : World) (bU bD bW bR bK c : Nat) (L : List Rel) (d : Int) (K : Act → World → Prop) (Q' : Exit → Act → World → Prop) (u0 u1 u2 u3 u4 u5 u6 u7 u8 u9 u10 u11 u12 u13 u14 u15 u16 u17 u18 u19 u20 u21 u22 u23 u24 u25 u26 u27 u29 u30 u31 u32 u33 u34 u35 u36 u37 u38 u39 u40 u41 u42 u43 u50 u51 u52 u53 u54 u55 u56 u57 u58 u59 u60 u61 u62 u63 u64 u65 u66 u67 u68 u69 u70 u71 u72 u73 u74 u75 u76 u77 u78 u79 u80 u81 u82 u83 u84 u85 u86 u87 u88 u89 u90 u91 u92 u93 u94 u95 u96 u97 u98 u99 u100 u101 u102 u103 u104 u105 u106 u107 u108 u109 u110 u111 u112 u113 u114 u115 u116 u117 u118 u119 u120 u121 u122 u123 u124 u125 u126 u127 u128 u129 u130 u131 u132 u133 u134 u135 u136 u137 u138 u139 u140 u141 u142 u143 u144 u145 u146 u147 u148 u149 u150 u151 u152 u153 u154 u155 u156 u157 u158 u159 u160 u161 u162 u163 u164 u165 u166 u167 u168 u169 u170 u171 u172 u173 u174 u175 u176 u177 u178 u179 u180 u181 u182 u183 u184 u185 u186 u187 u188 u189 u190 u191 u192 u193 u194 u195 u196 u197 u198 u199 u200 u201 u202 u203 u204 u205 u206 u207 u208 u209 u210 u211 u212 u213 u214 u215 u216 u217 u218 u219 u220 u221 u222 u223 u224 u225 u226 u227 u228 u229 u230 u231 u232 u233 u234 u235 u236 u237 u238 u239 u240 u241 u242 u243 u244 u245 u246 u247 u248 u249 u250 u251 u252 u253 u254 u255 u256 u257 u258 u259 u260 u261 u262 u263 u264 u265 u266 u267 u268 u269 u270 u271 u272 u273 u274 u275 u276 u277 u278 u279 u280 u281 u282 u283 u284 u285 u286 u287 u288 u289 u290 u291 u292 u293 u294 u295 u296 u297 u298 u299 u300 u301 u302 u303 u304 u305 u306 u307 u308 u309 u310 u311 u312 u313 u314 u315 u316 u317 u318 u319 u320 u321 u322 u323 u324 u325 u326 u327 u328 u329 u330 u331 u332 u333 u334 u335 u336 u337 u338 u339 u340 u341 u342 u343 u344 u345 u346 u347 u348 u349 u350 u351 u352 u353 u354 u355 u356 u357 u358 u359 u360 u361 u362 u363 u364 u365 u366 u367 u368 u369 u370 u371 u372 u373 u374 u375 u376 u377 u378 u379 u380 u381 u382 u383 u384 u385 u386 u387 u388 u389 u390 u391 u392 u393 u394 u395 u396 u397 u398 u399 u400 u401 u402 u403 u404 u405 u406 u407 u408 u409 u410 u411 u412 u413 u414 u415 u416 u417 u418 u419 u420 u421 u422 u423 u424 u425 u426 u427 u428 u429 u430 u431 u432 u433 u434 u435 u436 u437 u438 u439 u440 u441 u442 u443 u444 u445 u446 u447 u448 u449 u450 u451 u452 u453 u454 u455 u456 u457 u458 u459 u460 u461 u462 u463 u464 u465 u466 u467 u468 u469 u470 u471 u472 u473 u474 u475 u476 u477 u478 u479 u480 u481 u482 u483 u484 u485 u486 u487 u488 u489 u490 u491 u492 u493 u494 u495 u496 u497 u498 u499 u500 u501 u502 u503 u504 u505 u506 u507 u508 u509 u510 u511 u512 u513 u514 u515 u516 u517 u518 u519 u520 u521 u522 u523 u524 u525 u526 u527 u528 u529 u530 u531 u532 u533 u534 u535 u536 u537 u538 u539 u540 u541 u542 u543 u544 u545 u546 u547 u548 u549 u550 u551 u552 u553 u554 u555 u556 u557 u558 u559 u560 u561 u562 u563 u564 u565 u566 u567 u568 u569 u570 u571 u572 u573 u574 u575 u576 u577 u578 u579 u580 u581 : Value)
    (hc : c < 7) (hlU : W0.heap.size ≤ bU) (hUD : bU < bD) (hDW : bD < bW) (hWR : bW < bR) (hRK : bR < bK)
    (HB : Hid (Below W0.heap.size W0 W)) (HU : Hid (Arr W bU (roundIn L d true c 7))) (HD : Hid (Arr W bD (roundIn L d false c 7))) (HW : Hid (Arr W bW (fun _ => false))) (HAr : Hid (Arr W bR (fun _ => false))) (HKn : Hid (Arr W bK (fun _ => false)))
    (hK : ∀ (x49 x354 x355 x356 x357 x358 x359 x360 x361 x362 x363 x364 x365 x366 x367 x368 x369 x370 x371 x372 x373 x374 x375 x376 x377 x378 x379 x380 x381 x382 x383 x384 x385 x386 x387 x388 x389 x390 x391 x392 x393 x394 x395 : Value) (w' : World), Hid (Below W0.heap.size W0 w') → Hid (Arr w' bU (roundIn L d true c 7)) → Hid (Arr w' bW (withB L d c)) → Hid (Arr w' bR (aroundB L d c)) → Hid (Arr w' bK (withB L d c)) → K ⟨#[u0, u1, u2, u3, u4, u5, u6, u7, u8, u9, u10, u11, u12, u13, u14, u15, u16, u17, u18, u19, u20, u21, u22, u23, u24, u25, u26, u27, .int .i64 (c : Nat), u29, u30, u31, u32, u33, u34, u35, u36, u37, u38, u39, u40, u41, u42, u43, .pointer (some ⟨bU, 0, none⟩), .pointer (some ⟨bD, 0, none⟩), .pointer (some ⟨bW, 0, none⟩), .pointer (some ⟨bR, 0, none⟩), .pointer (some ⟨bK, 0, none⟩), x49, u50, u51, u52, u53, u54, u55, u56, u57, u58, u59, u60, u61, u62, u63, u64, u65, u66, u67, u68, u69, u70, u71, u72, u73, u74, u75, u76, u77, u78, u79, u80, u81, u82, u83, u84, u85, u86, u87, u88, u89, u90, u91, u92, u93, u94, u95, u96, u97, u98, u99, u100, u101, u102, u103, u104, u105, u106, u107, u108, u109, u110, u111, u112, u113, u114, u115, u116, u117, u118, u119, u120, u121, u122, u123, u124, u125, u126, u127, u128, u129, u130, u131, u132, u133, u134, u135, u136, u137, u138, u139, u140, u141, u142, u143, u144, u145, u146, u147, u148, u149, u150, u151, u152, u153, u154, u155, u156, u157, u158, u159, u160, u161, u162, u163, u164, u165, u166, u167, u168, u169, u170, u171, u172, u173, u174, u175, u176, u177, u178, u179, u180, u181, u182, u183, u184, u185, u186, u187, u188, u189, u190, u191, u192, u193, u194, u195, u196, u197, u198, u199, u200, u201, u202, u203, u204, u205, u206, u207, u208, u209, u210, u211, u212, u213, u214, u215, u216, u217, u218, u219, u220, u221, u222, u223, u224, u225, u226, u227, u228, u229, u230, u231, u232, u233, u234, u235, u236, u237, u238, u239, u240, u241, u242, u243, u244, u245, u246, u247, u248, u249, u250, u251, u252, u253, u254, u255, u256, u257, u258, u259, u260, u261, u262, u263, u264, u265, u266, u267, u268, u269, u270, u271, u272, u273, u274, u275, u276, u277, u278, u279, u280, u281, u282, u283, u284, u285, u286, u287, u288, u289, u290, u291, u292, u293, u294, u295, u296, u297, u298, u299, u300, u301, u302, u303, u304, u305, u306, u307, u308, u309, u310, u311, u312, u313, u314, u315, u316, u317, u318, u319, u320, u321, u322, u323, u324, u325, u326, u327, u328, u329, u330, u331, u332, u333, u334, u335, u336, u337, u338, u339, u340, u341, u342, u343, u344, u345, u346, u347, u348, u349, u350, u351, u352, u353, x354, x355, x356, x357, x358, x359, x360, x361, x362, x363, x364, x365, x366, x367, x368, x369, x370, x371, x372, x373, x374, x375, x376, x377, x378, x379, x380, x381, x382, x383, x384, x385, x386, x387, x388, x389, x390, x391, x392, x393, x394, x395, u396, u397, u398, u399, u400, u401, u402, u403, u404, u405, u406, u407, u408, u409, u410, u411, u412, u413, u414, u415, u416, u417, u418, u419, u420, u421, u422, u423, u424, u425, u426, u427, u428, u429, u430, u431, u432, u433, u434, u435, u436, u437, u438, u439, u440, u441, u442, u443, u444, u445, u446, u447, u448, u449, u450, u451, u452, u453, u454, u455, u456, u457, u458, u459, u460, u461, u462, u463, u464, u465, u466, u467, u468, u469, u470, u471, u472, u473, u474, u475, u476, u477, u478, u479, u480, u481, u482, u483, u484, u485, u486, u487, u488, u489, u490, u491, u492, u493, u494, u495, u496, u497, u498, u499, u500, u501, u502, u503, u504, u505, u506, u507, u508, u509, u510, u511, u512, u513, u514, u515, u516, u517, u518, u519, u520, u521, u522, u523, u524, u525, u526, u527, u528, u529, u530, u531, u532, u533, u534, u535, u536, u537, u538, u539, u540, u541, u542, u543, u544, u545, u546, u547, u548, u549, u550, u551, u552, u553, u554, u555, u556, u557, u558, u559, u560, u561, u562, u563, u564, u565, u566, u567, u568, u569, u570, u571, u572, u573, u574, u575, u576, u577, u578, u579, u580, u581], []⟩ w') :
    Code.wp Ybaf.prog ((blockAt 10 (Ybaf.f3.body.getD .skip)).getD .skip) (Exit.then K Q')
      ⟨#[u0, u1, u2, u3, u4, u5, u6, u7, u8, u9, u10, u11, u12, u13, u14, u15, u16, u17, u18, u19, u20, u21, u22, u23, u24, u25, u26, u27, .int .i64 (c : Nat), u29, u30, u31, u32, u33, u34, u35, u36, u37, u38, u39, u40, u41, u42, u43, .pointer (some ⟨bU, 0, none⟩), .pointer (some ⟨bD, 0, none⟩), .pointer (some ⟨bW, 0, none⟩), .pointer (some ⟨bR, 0, none⟩), .pointer (some ⟨bK, 0, none⟩), .int .i64 0, u50, u51, u52, u53, u54, u55, u56, u57, u58, u59, u60, u61, u62, u63, u64, u65, u66, u67, u68, u69, u70, u71, u72, u73, u74, u75, u76, u77, u78, u79, u80, u81, u82, u83, u84, u85, u86, u87, u88, u89, u90, u91, u92, u93, u94, u95, u96, u97, u98, u99, u100, u101, u102, u103, u104, u105, u106, u107, u108, u109, u110, u111, u112, u113, u114, u115, u116, u117, u118, u119, u120, u121, u122, u123, u124, u125, u126, u127, u128, u129, u130, u131, u132, u133, u134, u135, u136, u137, u138, u139, u140, u141, u142, u143, u144, u145, u146, u147, u148, u149, u150, u151, u152, u153, u154, u155, u156, u157, u158, u159, u160, u161, u162, u163, u164, u165, u166, u167, u168, u169, u170, u171, u172, u173, u174, u175, u176, u177, u178, u179, u180, u181, u182, u183, u184, u185, u186, u187, u188, u189, u190, u191, u192, u193, u194, u195, u196, u197, u198, u199, u200, u201, u202, u203, u204, u205, u206, u207, u208, u209, u210, u211, u212, u213, u214, u215, u216, u217, u218, u219, u220, u221, u222, u223, u224, u225, u226, u227, u228, u229, u230, u231, u232, u233, u234, u235, u236, u237, u238, u239, u240, u241, u242, u243, u244, u245, u246, u247, u248, u249, u250, u251, u252, u253, u254, u255, u256, u257, u258, u259, u260, u261, u262, u263, u264, u265, u266, u267, u268, u269, u270, u271, u272, u273, u274, u275, u276, u277, u278, u279, u280, u281, u282, u283, u284, u285, u286, u287, u288, u289, u290, u291, u292, u293, u294, u295, u296, u297, u298, u299, u300, u301, u302, u303, u304, u305, u306, u307, u308, u309, u310, u311, u312, u313, u314, u315, u316, u317, u318, u319, u320, u321, u322, u323, u324, u325, u326, u327, u328, u329, u330, u331, u332, u333, u334, u335, u336, u337, u338, u339, u340, u341, u342, u343, u344, u345, u346, u347, u348, u349, u350, u351, u352, u353, u354, u355, u356, u357, u358, u359, u360, u361, u362, u363, u364, u365, u366, u367, u368, u369, u370, u371, u372, u373, u374, u375, u376, u377, u378, u379, u380, u381, u382, u383, u384, u385, u386, u387, u388, u389, u390, u391, u392, u393, u394, u395, u396, u397, u398, u399, u400, u401, u402, u403, u404, u405, u406, u407, u408, u409, u410, u411, u412, u413, u414, u415, u416, u417, u418, u419, u420, u421, u422, u423, u424, u425, u426, u427, u428, u429, u430, u431, u432, u433, u434, u435, u436, u437, u438, u439, u440, u441, u442, u443, u444, u445, u446, u447, u448, u449, u450, u451, u452, u453, u454, u455, u456, u457, u458, u459, u460, u461, u462, u463, u464, u465, u466, u467, u468, u469, u470, u471, u472, u473, u474, u475, u476, u477, u478, u479, u480, u481, u482, u483, u484, u485, u486, u487, u488, u489, u490, u491, u492, u493, u494, u495, u496, u497, u498, u499, u500, u501, u502, u503, u504, u505, u506, u507, u508, u509, u510, u511, u512, u513, u514, u515, u516, u517, u518, u519, u520, u521, u522, u523, u524, u525, u526, u527, u528, u529, u530, u531, u532, u533, u534, u535, u536, u537, u538, u539, u540, u541, u542, u543, u544, u545, u546, u547, u548, u549, u550, u551, u552, u553, u554, u555, u556, u557, u558, u559, u560, u561, u562, u563, u564, u565, u566, u567, u568, u569, u570, u571, u572, u573, u574, u575, u576, u577, u578, u579, u580, u581], []⟩ W := by
  let Qx : Exit → Act → World → Prop := bodyPost Ybaf.prog Ybaf.f3 fun _ _ => True
  have HK : Hid (∀ (x49 x354 x355 x356 x357 x358 x359 x360 x361 x362 x363 x364 x365 x366 x367 x368 x369 x370 x371 x372 x373 x374 x375 x376 x377 x378 x379 x380 x381 x382 x383 x384 x385 x386 x387 x388 x389 x390 x391 x392 x393 x394 x395 : Value) (w' : World), Hid (Below W0.heap.size W0 w') → Hid (Arr w' bU (roundIn L d true c 7)) → Hid (Arr w' bW (withB L d c)) → Hid (Arr w' bR (aroundB L d c)) → Hid (Arr w' bK (withB L d c)) → K ⟨#[u0, u1, u2, u3, u4, u5, u6, u7, u8, u9, u10, u11, u12, u13, u14, u15, u16, u17, u18, u19, u20, u21, u22, u23, u24, u25, u26, u27, .int .i64 (c : Nat), u29, u30, u31, u32, u33, u34, u35, u36, u37, u38, u39, u40, u41, u42, u43, .pointer (some ⟨bU, 0, none⟩), .pointer (some ⟨bD, 0, none⟩), .pointer (some ⟨bW, 0, none⟩), .pointer (some ⟨bR, 0, none⟩), .pointer (some ⟨bK, 0, none⟩), x49, u50, u51, u52, u53, u54, u55, u56, u57, u58, u59, u60, u61, u62, u63, u64, u65, u66, u67, u68, u69, u70, u71, u72, u73, u74, u75, u76, u77, u78, u79, u80, u81, u82, u83, u84, u85, u86, u87, u88, u89, u90, u91, u92, u93, u94, u95, u96, u97, u98, u99, u100, u101, u102, u103, u104, u105, u106, u107, u108, u109, u110, u111, u112, u113, u114, u115, u116, u117, u118, u119, u120, u121, u122, u123, u124, u125, u126, u127, u128, u129, u130, u131, u132, u133, u134, u135, u136, u137, u138, u139, u140, u141, u142, u143, u144, u145, u146, u147, u148, u149, u150, u151, u152, u153, u154, u155, u156, u157, u158, u159, u160, u161, u162, u163, u164, u165, u166, u167, u168, u169, u170, u171, u172, u173, u174, u175, u176, u177, u178, u179, u180, u181, u182, u183, u184, u185, u186, u187, u188, u189, u190, u191, u192, u193, u194, u195, u196, u197, u198, u199, u200, u201, u202, u203, u204, u205, u206, u207, u208, u209, u210, u211, u212, u213, u214, u215, u216, u217, u218, u219, u220, u221, u222, u223, u224, u225, u226, u227, u228, u229, u230, u231, u232, u233, u234, u235, u236, u237, u238, u239, u240, u241, u242, u243, u244, u245, u246, u247, u248, u249, u250, u251, u252, u253, u254, u255, u256, u257, u258, u259, u260, u261, u262, u263, u264, u265, u266, u267, u268, u269, u270, u271, u272, u273, u274, u275, u276, u277, u278, u279, u280, u281, u282, u283, u284, u285, u286, u287, u288, u289, u290, u291, u292, u293, u294, u295, u296, u297, u298, u299, u300, u301, u302, u303, u304, u305, u306, u307, u308, u309, u310, u311, u312, u313, u314, u315, u316, u317, u318, u319, u320, u321, u322, u323, u324, u325, u326, u327, u328, u329, u330, u331, u332, u333, u334, u335, u336, u337, u338, u339, u340, u341, u342, u343, u344, u345, u346, u347, u348, u349, u350, u351, u352, u353, x354, x355, x356, x357, x358, x359, x360, x361, x362, x363, x364, x365, x366, x367, x368, x369, x370, x371, x372, x373, x374, x375, x376, x377, x378, x379, x380, x381, x382, x383, x384, x385, x386, x387, x388, x389, x390, x391, x392, x393, x394, x395, u396, u397, u398, u399, u400, u401, u402, u403, u404, u405, u406, u407, u408, u409, u410, u411, u412, u413, u414, u415, u416, u417, u418, u419, u420, u421, u422, u423, u424, u425, u426, u427, u428, u429, u430, u431, u432, u433, u434, u435, u436, u437, u438, u439, u440, u441, u442, u443, u444, u445, u446, u447, u448, u449, u450, u451, u452, u453, u454, u455, u456, u457, u458, u459, u460, u461, u462, u463, u464, u465, u466, u467, u468, u469, u470, u471, u472, u473, u474, u475, u476, u477, u478, u479, u480, u481, u482, u483, u484, u485, u486, u487, u488, u489, u490, u491, u492, u493, u494, u495, u496, u497, u498, u499, u500, u501, u502, u503, u504, u505, u506, u507, u508, u509, u510, u511, u512, u513, u514, u515, u516, u517, u518, u519, u520, u521, u522, u523, u524, u525, u526, u527, u528, u529, u530, u531, u532, u533, u534, u535, u536, u537, u538, u539, u540, u541, u542, u543, u544, u545, u546, u547, u548, u549, u550, u551, u552, u553, u554, u555, u556, u557, u558, u559, u560, u561, u562, u563, u564, u565, u566, u567, u568, u569, u570, u571, u572, u573, u574, u575, u576, u577, u578, u579, u580, u581], []⟩ w') := hK
  clear hK
  conv => arg 2; whnf
  go_wp2_with fail
  go_loopw [49] (fun i wr => ∃ k : Nat, k ≤ 7 ∧ i = .int .i64 k ∧ Hid (Below W0.heap.size W0 wr) ∧ Hid (Arr wr bU (roundIn L d true c 7)) ∧ Hid (Arr wr bD (roundIn L d false c 7)) ∧ Hid (Arr wr bW (fun q => decide (q < k) && withB L d c q)) ∧ Hid (Arr wr bR (fun q => decide (q < k) && aroundB L d c q)) ∧ Hid (Arr wr bK (fun q => decide (q < k) && withB L d c q))) (fun i _ => 7 - (intOf i).toNat)
  case atStart => exact ⟨0, by omega, rfl, HB, HU, HD, HW.out.congr (fun q _ => by simp), HAr.out.congr (fun q _ => by simp), HKn.out.congr (fun q _ => by simp)⟩
  case round =>
    clear HB HU HD HW HAr HKn
    obtain ⟨k, hk, rfl, hb, hU, hD, hW, hA, hKn⟩ := hrel
    by_cases hlt : k < 7
    · have hki : (k : Int) < 7 := by omega
      have zu : wr.cell? ⟨bU, k, none⟩ = some (.bool (roundIn L d true c 7 k)) := hU.out.cell _ hlt
      have Hw : Hid (withB L d c k = (k == c || (roundIn L d true c 7 k && k != 0))) := rfl
      have Ha : Hid (aroundB L d c k = (k == c || ((roundIn L d true c 7 k || roundIn L d false c 7 k) && k != 0))) := rfl
      have Zu : Hid (roundIn L d true c 7 k = roundIn L d true c 7 k) := rfl
      obtain ⟨ru, hru⟩ : ∃ ru, roundIn L d true c 7 k = ru := ⟨_, rfl⟩
      have Hru : Hid (roundIn L d true c 7 k = ru) := hru
      obtain ⟨rd, hrd⟩ : ∃ rd, roundIn L d false c 7 k = rd := ⟨_, rfl⟩
      have Hrd : Hid (roundIn L d false c 7 k = rd) := hrd
      rw [hru] at zu Hw Ha
      rw [hrd] at Ha
      clear hru hrd Zu
      obtain ⟨wk, hwk⟩ : ∃ wk, withB L d c k = wk := ⟨_, rfl⟩
      have Hwk : Hid (withB L d c k = wk) := hwk
      rw [hwk] at Hw
      obtain ⟨ak, hak⟩ : ∃ ak, aroundB L d c k = ak := ⟨_, rfl⟩
      have Hak : Hid (aroundB L d c k = ak) := hak
      rw [hak] at Ha
      clear hwk hak
      have zW := hW.out.cell k hlt
      have gW := hW.out.frozen k
      have lU := hU.out.lt
      have lD := hD.out.lt
      have lW := hW.out.lt
      have lR := hA.out.lt
      have lK := hKn.out.lt
      have HW1 : Hid (Arr (wr.setCell ⟨bW, k, none⟩ (.bool wk)) bW (fun q => decide (q < k + 1) && withB L d c q)) := (hW.out.set (q := k) hlt wk).congr (fun q _ => set_upto Hwk.out q)
      have HU1 : Hid (Arr (wr.setCell ⟨bW, k, none⟩ (.bool wk)) bU (roundIn L d true c 7)) := hU.out.far (by omega)
      have HD1 : Hid (Arr (wr.setCell ⟨bW, k, none⟩ (.bool wk)) bD (roundIn L d false c 7)) := hD.out.far (by omega)
      have HR1 : Hid (Arr (wr.setCell ⟨bW, k, none⟩ (.bool wk)) bR (fun q => decide (q < k) && aroundB L d c q)) := hA.out.far (by omega)
      have HK1 : Hid (Arr (wr.setCell ⟨bW, k, none⟩ (.bool wk)) bK (fun q => decide (q < k) && withB L d c q)) := hKn.out.far (by omega)
      have HB1 : Hid (Below W0.heap.size W0 (wr.setCell ⟨bW, k, none⟩ (.bool wk))) := hb.out.setCell (by show W0.heap.size ≤ bW; omega) _
      go_upto_region 73 with fail
      go_cut [370] (fun _ wc => wc = wr.setCell ⟨bW, k, none⟩ (.bool wk))
      case first =>
        by_cases hkc : k = c
        · subst hkc
          obtain rfl : wk = true := by rw [Hw.out]; simp
          go_wp2_with fail
          go_meet
          case rel => first | rfl | exact set_eq (by simp)
        · have hkc' : ((k : Int) == (c : Int)) = false := by simp; omega
          cases ru
          · obtain rfl : wk = false := by rw [Hw.out]; simp [hkc]
            go_wp2_with fail
            go_meet
            case rel => first | rfl | exact set_eq (by simp)
          · by_cases hk0 : k = 0
            · subst hk0
              have hc1 : ((0 : Int) == (c : Int)) = false := by simp; omega
              have hc2 : ¬ (0 : Int) = (c : Int) := by omega
              obtain rfl : wk = false := by rw [Hw.out]; simp [hkc]
              go_wp2_with fail
              go_meet
              case rel => first | rfl | exact set_eq (by simp)
            · have hk0' : ((k : Int) == 0) = false := by simp; omega
              have hk1 : ((k : Int) != 0) = true := by simp; omega
              obtain rfl : wk = true := by rw [Hw.out]; simp [hk0]
              go_wp2_with fail
              go_meet
              case rel => first | rfl | exact set_eq (by simp)
      case rest =>
        rw [← hcut] at HW1 HU1 HD1 HR1 HK1 HB1
        clear hcut hb hU hD hW hA hKn zW gW lU lD lW lR lK zu
        have zu : wc.cell? ⟨bU, k, none⟩ = some (.bool ru) := (HU1.out.cell _ hlt).trans (by rw [Hru.out])
        have zd : wc.cell? ⟨bD, k, none⟩ = some (.bool rd) := (HD1.out.cell _ hlt).trans (by rw [Hrd.out])
        have zR := HR1.out.cell k hlt
        have gR := HR1.out.frozen k
        have lU := HU1.out.lt
        have lD := HD1.out.lt
        have lW := HW1.out.lt
        have lR := HR1.out.lt
        have lK := HK1.out.lt
        have HW2 : Hid (Arr (wc.setCell ⟨bR, k, none⟩ (.bool ak)) bW (fun q => decide (q < k + 1) && withB L d c q)) := HW1.out.far (by omega)
        have HU2 : Hid (Arr (wc.setCell ⟨bR, k, none⟩ (.bool ak)) bU (roundIn L d true c 7)) := HU1.out.far (by omega)
        have HD2 : Hid (Arr (wc.setCell ⟨bR, k, none⟩ (.bool ak)) bD (roundIn L d false c 7)) := HD1.out.far (by omega)
        have HR2 : Hid (Arr (wc.setCell ⟨bR, k, none⟩ (.bool ak)) bR (fun q => decide (q < k + 1) && aroundB L d c q)) := (HR1.out.set (q := k) hlt ak).congr (fun q _ => set_upto Hak.out q)
        have HK2 : Hid (Arr (wc.setCell ⟨bR, k, none⟩ (.bool ak)) bK (fun q => decide (q < k) && withB L d c q)) := HK1.out.far (by omega)
        have HB2 : Hid (Below W0.heap.size W0 (wc.setCell ⟨bR, k, none⟩ (.bool ak))) := HB1.out.setCell (by show W0.heap.size ≤ bR; omega) _
        go_upto_region 74 with fail
        go_cut [389] (fun _ wd => wd = wc.setCell ⟨bR, k, none⟩ (.bool ak))
        case first =>
          by_cases hkc : k = c
          · subst hkc
            obtain rfl : ak = true := by rw [Ha.out]; simp
            go_wp2_with fail
            go_meet
            case rel => first | rfl | exact set_eq (by simp)
          · have hkc' : ((k : Int) == (c : Int)) = false := by simp; omega
            by_cases hk0 : k = 0
            · subst hk0
              have hc1 : ((0 : Int) == (c : Int)) = false := by simp; omega
              have hc2 : ¬ (0 : Int) = (c : Int) := by omega
              obtain rfl : ak = false := by rw [Ha.out]; simp [hkc]
              cases ru
              · cases rd
                · go_wp2_with fail
                  go_meet
                  case rel => first | rfl | exact set_eq (by simp)
                · go_wp2_with fail
                  go_meet
                  case rel => first | rfl | exact set_eq (by simp)
              · go_wp2_with fail
                go_meet
                case rel => first | rfl | exact set_eq (by simp)
            · have hk0' : ((k : Int) == 0) = false := by simp; omega
              have hk1 : ((k : Int) != 0) = true := by simp; omega
              have Hru2 : Hid (ak = (ru || rd)) := by
                show _ = _
                rw [Ha.out, show (k == c) = false by simpa using hkc, show (k != 0) = true by simpa using hk0]
                simp
              cases ru
              · cases rd
                · obtain rfl : ak = false := Hru2.out
                  go_wp2_with fail
                  go_meet
                  case rel => first | rfl | exact set_eq (by simp)
                · obtain rfl : ak = true := Hru2.out
                  go_wp2_with fail
                  go_meet
                  case rel => first | rfl | exact set_eq (by simp)
              · obtain rfl : ak = true := Hru2.out
                go_wp2_with fail
                go_meet
                case rel => first | rfl | exact set_eq (by simp)
        case rest =>
          rw [← hcut] at HW2 HU2 HD2 HR2 HK2 HB2
          clear hcut HW1 HU1 HD1 HR1 HK1 HB1 zR gR lU lD lW lR lK zu zd
          have zw : wc.cell? ⟨bW, k, none⟩ = some (.bool wk) := (HW2.out.cell _ hlt).trans (by rw [Hwk.out]; simp)
          have zK := HK2.out.cell k hlt
          have gK := HK2.out.frozen k
          have lU := HU2.out.lt
          have lW := HW2.out.lt
          have lR := HR2.out.lt
          have lK := HK2.out.lt
          have HW3 : Hid (Arr (wc.setCell ⟨bK, k, none⟩ (.bool wk)) bW (fun q => decide (q < k + 1) && withB L d c q)) := HW2.out.far (by omega)
          have HU3 : Hid (Arr (wc.setCell ⟨bK, k, none⟩ (.bool wk)) bU (roundIn L d true c 7)) := HU2.out.far (by omega)
          have HD3 : Hid (Arr (wc.setCell ⟨bK, k, none⟩ (.bool wk)) bD (roundIn L d false c 7)) := HD2.out.far (by omega)
          have HR3 : Hid (Arr (wc.setCell ⟨bK, k, none⟩ (.bool wk)) bR (fun q => decide (q < k + 1) && aroundB L d c q)) := HR2.out.far (by omega)
          have HK3 : Hid (Arr (wc.setCell ⟨bK, k, none⟩ (.bool wk)) bK (fun q => decide (q < k + 1) && withB L d c q)) := (HK2.out.set (q := k) hlt wk).congr (fun q _ => set_upto Hwk.out q)
          have HB3 : Hid (Below W0.heap.size W0 (wc.setCell ⟨bK, k, none⟩ (.bool wk))) := HB2.out.setCell (by show W0.heap.size ≤ bK; omega) _
          go_wp2_with fail
          go_roundw
          case rel => first | exact ⟨k + 1, by omega, by go_num, HB3, HU3, HD3, HW3, HR3, HK3⟩ | ((repeat apply Exists.intro); refine ⟨?_, rfl⟩; exact ⟨k + 1, by omega, by go_num, HB3, HU3, HD3, HW3, HR3, HK3⟩)
          case measure => simp [intOf]; omega
    · obtain rfl : k = 7 := by omega
      have HW3 : Hid (Arr wr bW (withB L d c)) := hW.out.congr (fun q hq => by simp [hq])
      have HR3 : Hid (Arr wr bR (aroundB L d c)) := hA.out.congr (fun q hq => by simp [hq])
      have HK3 : Hid (Arr wr bK (withB L d c)) := hKn.out.congr (fun q hq => by simp [hq])
      go_wp2_with fail
      exact HK.out _ _ _ _ _ _ _ _ _ _ _ _ _ _ _ _ _ _ _ _ _ _ _ _ _ _ _ _ _ _ _ _ _ _ _ _ _ _ _ _ _ _ _ wr hb hU HW3 HR3 HK3

end Go.Proofs.YbulkcfwsFmt
