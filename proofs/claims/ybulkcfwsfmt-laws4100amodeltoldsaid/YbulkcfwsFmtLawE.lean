import Derived.Test.YbulkcfwsFmtLawG
import Derived.Test.YbulkcfwsFmtLoop6
import Derived.Test.YbulkcfwsFmtLoop7
namespace Go.Proofs.YbulkcfwsFmt
open Go.RowKit

/-- What stands when RelatedToDeal is called. -/
structure LE (w0 W : World) (rb A bpi bps bcf bsi bri bfa : Nat) (bs : Nat → Nat) (L : List Rel) (d : Int) (ps rs : List Nat) (paths : List (List Nat)) : Prop where
  good : ∀ i, i < L.length → (L.getD i r0).ok
  psl : ∀ q ∈ ps, q < 7
  rsl : ∀ q ∈ rs, q < 5
  p3 : ∀ q, q < paths.length → (paths.getD q []).length ≤ 3
  p5 : ∀ q j, q < paths.length → j < (paths.getD q []).length → (paths.getD q []).getD j 0 < 5
  reg : Reg AnyB W rb L
  arr : ∀ j, j < 7 → W.rowIs (A + j) (arrT j) L.length (arrV L d j)
  pi : W.rowIs bpi 3 ps.length (fun i => .int .i64 (ps.getD i 0 : Nat))
  pn : W.rowIs bps 9 ps.length (fun i => .string (nameOf (ps.getD i 0)))
  ri : W.rowIs bri 3 rs.length (fun i => .int .i64 (rs.getD i 0 : Nat))
  fa : W.rowIs bfa 36 rs.length (fun i => .string (roleOf (rs.getD i 0)))
  cf : Paths AnyB W (.slice (some ⟨bcf, 0, none⟩) paths.length paths.length) paths
  si : W.rowIs bsi 27 paths.length (fun q => .slice (some ⟨bs q, 0, none⟩) (paths.getD q []).length (paths.getD q []).length)
  sj : ∀ q, q < paths.length → W.rowIs (bs q) 3 (paths.getD q []).length (fun j => .int .i64 ((paths.getD q []).getD j 0 : Nat))
  bel : Below w0.heap.size w0 W

theorem strs_of_is {W : World} {b t : Nat} {ids : List Nat} {g : Nat → ByteArray} (h : W.rowIs b t ids.length (fun i => .string (g (ids.getD i 0)))) : Strs AnyB W (.slice (some ⟨b, 0, none⟩) ids.length ids.length) (ids.map g) := by
  have h1 := row_of_is h
  rw [flat_getD ids (fun x => .string (g x))] at h1
  show Row AnyB W _ (ids.map g).length 1 ((ids.map g).map Value.string)
  rw [List.length_map, List.map_map]
  exact h1

theorem paths_mem {paths : List (List Nat)} {P : List Nat → Prop} (h : ∀ q, q < paths.length → P (paths.getD q [])) : ∀ path ∈ paths, P path := by
  intro path hm
  obtain ⟨q, hq, e⟩ := List.getElem_of_mem hm
  have := h q hq
  rw [List.getD, List.getElem?_eq_getElem hq, e] at this
  exact this

theorem list_mem {xs : List Nat} {P : Nat → Prop} (h : ∀ q, q < xs.length → P (xs.getD q 0)) : ∀ x ∈ xs, P x := by
  intro x hm
  obtain ⟨q, hq, e⟩ := List.getElem_of_mem hm
  have := h q hq
  rw [List.getD, List.getElem?_eq_getElem hq, e] at this
  exact this

theorem filter_congr_mem {ps : List Nat} {f g : Nat → Bool} (h : ∀ q ∈ ps, f q = g q) : ps.filter f = ps.filter g := List.filter_congr h

theorem three_new (W : World) (o : Obj) (ho : o = .cells #[.bool false, .bool false, .bool false, .bool false, .bool false, .bool false, .bool false] 63) :
    Arr (((W.alloc o).alloc o).alloc o) W.heap.size (fun _ => false) ∧ Arr (((W.alloc o).alloc o).alloc o) (W.heap.size + 1) (fun _ => false) ∧ Arr (((W.alloc o).alloc o).alloc o) (W.heap.size + 1 + 1) (fun _ => false) ∧ Below W.heap.size W (((W.alloc o).alloc o).alloc o) := by
  subst ho
  have b1 : ∀ X : World, Below X.heap.size X (X.alloc (.cells #[.bool false, .bool false, .bool false, .bool false, .bool false, .bool false, .bool false] 63)) := fun X => (Below.refl _ X).alloc (Nat.le_refl _) _
  have h2 := Arr.new (W.alloc (.cells #[.bool false, .bool false, .bool false, .bool false, .bool false, .bool false, .bool false] 63)) (fun _ => false)
  have h3 := Arr.new ((W.alloc (.cells #[.bool false, .bool false, .bool false, .bool false, .bool false, .bool false, .bool false] 63)).alloc (.cells #[.bool false, .bool false, .bool false, .bool false, .bool false, .bool false, .bool false] 63)) (fun _ => false)
  have s1 : ∀ X : World, (X.alloc (.cells #[.bool false, .bool false, .bool false, .bool false, .bool false, .bool false, .bool false] 63)).heap.size = X.heap.size + 1 := fun X => by simp
  rw [s1] at h2
  rw [s1, s1] at h3
  exact ⟨((Arr.new W (fun _ => false)).below (b1 _)).below (b1 _), h2.below (b1 _), h3, (((Below.refl _ W).alloc (Nat.le_refl _) _).alloc (by simp) _).alloc (by simp; omega) _⟩

set_option maxHeartbeats 20000000 in
set_option maxRecDepth 100000 in
theorem partE (w0 W : World) (rb A c bpi bps bcf bsi bri bfa : Nat) (bs : Nat → Nat) (L : List Rel) (d : Int) (ps rs : List Nat) (paths : List (List Nat)) (u0 u1 u2 u3 u4 u5 u6 u7 u8 u9 u10 u11 u12 u23 u24 u25 u26 u27 u31 u32 u36 u37 u38 u41 u42 u43 u44 u45 u46 u47 u48 u49 u50 u51 u52 u53 u54 u55 u56 u57 u58 u59 u60 u61 u62 u63 u64 u65 u66 u67 u68 u69 u70 u71 u72 u73 u74 u75 u76 u77 u78 u79 u80 u81 u82 u83 u84 u85 u86 u87 u88 u89 u90 u91 u92 u93 u94 u95 u96 u97 u98 u99 u100 u101 u102 u103 u104 u105 u106 u107 u108 u109 u110 u111 u112 u113 u114 u115 u116 u117 u118 u119 u120 u121 u122 u123 u124 u125 u126 u127 u128 u129 u130 u131 u132 u133 u134 u135 u136 u137 u138 u139 u140 u141 u142 u143 u144 u145 u146 u147 u148 u149 u150 u151 u152 u153 u154 u155 u156 u157 u158 u159 u160 u161 u162 u163 u164 u165 u166 u167 u168 u169 u170 u171 u172 u173 u174 u175 u176 u177 u178 u179 u180 u181 u182 u183 u184 u185 u186 u187 u188 u189 u190 u191 u192 u193 u194 u195 u196 u197 u198 u199 u200 u201 u202 u203 u204 u205 u206 u207 u208 u209 u210 u211 u212 u213 u214 u215 u216 u217 u218 u219 u220 u221 u222 u223 u224 u225 u226 u227 u228 u229 u230 u231 u232 u233 u234 u235 u236 u237 u238 u239 u240 u241 u242 u243 u244 u245 u246 u247 u248 u249 u250 u251 u252 u253 u254 u255 u256 u257 u258 u259 u260 u261 u262 u263 u264 u265 u266 u267 u268 u269 u270 u271 u272 u273 u274 u275 u276 u277 u278 u279 u280 u281 u282 u283 u284 u285 u286 u287 u288 u289 u290 u291 u292 u293 u294 u295 u296 u297 u298 u299 u300 u301 u302 u303 u304 u305 u306 u307 u308 u309 u310 u311 u312 u313 u314 u315 u316 u317 u318 u319 u320 u321 u322 u323 u324 u325 u326 u327 u328 u329 u330 u331 u332 u333 u334 u335 u336 u337 u338 u339 u340 u341 u342 u343 u344 u345 u346 u347 u348 u349 u350 u351 u352 u353 u354 u355 u356 u357 u358 u359 u360 u361 u362 u363 u364 u365 u366 u367 u368 u369 u370 u371 u372 u373 u374 u375 u376 u377 u378 u379 u380 u381 u382 u383 u384 u385 u386 u387 u388 u389 u390 u391 u392 u393 u394 u395 u396 u397 u398 u399 u400 u401 u402 u403 u404 u405 u406 u407 u408 u409 u410 u411 u412 u413 u414 u415 u416 u417 u418 u419 u420 u421 u422 u423 u424 u425 u426 u427 u428 u429 u430 u431 u432 u433 u434 u435 u436 u437 u438 u439 u440 u441 u442 u443 u444 u445 u446 u447 u448 u449 u450 u451 u452 u453 u454 u455 u456 u457 u458 u459 u460 u461 u462 u463 u464 u465 u466 u467 u468 u469 u470 u471 u472 u473 u474 u475 u476 u477 u478 u479 u480 u481 u482 u483 u484 u485 u486 u487 u488 u489 u490 u491 u492 u493 u494 u495 u496 u497 u498 u499 u500 u501 u502 u503 u504 u505 u506 u507 u508 u509 u510 u511 u512 u513 u514 u515 u516 u517 u518 u519 u520 u521 u522 u523 u524 u525 u526 u527 u528 u529 u530 u531 u532 u533 u534 u535 u536 u537 u538 u539 u540 u541 u542 u543 u544 u545 u546 u547 u548 u549 u550 u551 u552 u553 u554 u555 u556 u557 u558 u559 u560 u561 u562 u563 u564 u565 u566 u567 u568 u569 u570 u571 u572 u573 u574 u575 u576 u577 u578 u579 u580 u581 : Value)
    (hL : L.length ≤ 32) (hc : c < 7) (hd : d ≠ 0) (hpl : ps.length ≤ 1024) (hrl : rs.length ≤ 1024) (hfl : paths.length ≤ 16) (hLE : LE w0 W rb A bpi bps bcf bsi bri bfa bs L d ps rs paths) :
    Code.wp Ybaf.prog (tailAt 66 (Ybaf.f3.body.getD .skip)) (bodyPost Ybaf.prog Ybaf.f3 fun en w' => en = Ending.returned (Value.bool true) ∧ Below w0.heap.size w0 w')
      ⟨#[u0, u1, u2, u3, u4, u5, u6, u7, u8, u9, u10, u11, u12, .int .i64 (L.length : Nat), .pointer (some ⟨rb, 0, none⟩), .slice (some ⟨A, 0, none⟩) L.length L.length, .slice (some ⟨(A + 1), 0, none⟩) L.length L.length, .slice (some ⟨(A + 2), 0, none⟩) L.length L.length, .slice (some ⟨(A + 3), 0, none⟩) L.length L.length, .slice (some ⟨(A + 4), 0, none⟩) L.length L.length, .slice (some ⟨(A + 5), 0, none⟩) L.length L.length, .slice (some ⟨(A + 6), 0, none⟩) L.length L.length, .int .i32 d, u23, u24, u25, u26, u27, .int .i64 (c : Nat), .slice (some ⟨bpi, 0, none⟩) ps.length ps.length, .slice (some ⟨bps, 0, none⟩) ps.length ps.length, u31, u32, .int .i64 (paths.length : Nat), .slice (some ⟨bcf, 0, none⟩) paths.length paths.length, .slice (some ⟨bsi, 0, none⟩) paths.length paths.length, u36, u37, u38, .slice (some ⟨bri, 0, none⟩) rs.length rs.length, .slice (some ⟨bfa, 0, none⟩) rs.length rs.length, u41, u42, u43, u44, u45, u46, u47, u48, u49, u50, u51, u52, u53, u54, u55, u56, u57, u58, u59, u60, u61, u62, u63, u64, u65, u66, u67, u68, u69, u70, u71, u72, u73, u74, u75, u76, u77, u78, u79, u80, u81, u82, u83, u84, u85, u86, u87, u88, u89, u90, u91, u92, u93, u94, u95, u96, u97, u98, u99, u100, u101, u102, u103, u104, u105, u106, u107, u108, u109, u110, u111, u112, u113, u114, u115, u116, u117, u118, u119, u120, u121, u122, u123, u124, u125, u126, u127, u128, u129, u130, u131, u132, u133, u134, u135, u136, u137, u138, u139, u140, u141, u142, u143, u144, u145, u146, u147, u148, u149, u150, u151, u152, u153, u154, u155, u156, u157, u158, u159, u160, u161, u162, u163, u164, u165, u166, u167, u168, u169, u170, u171, u172, u173, u174, u175, u176, u177, u178, u179, u180, u181, u182, u183, u184, u185, u186, u187, u188, u189, u190, u191, u192, u193, u194, u195, u196, u197, u198, u199, u200, u201, u202, u203, u204, u205, u206, u207, u208, u209, u210, u211, u212, u213, u214, u215, u216, u217, u218, u219, u220, u221, u222, u223, u224, u225, u226, u227, u228, u229, u230, u231, u232, u233, u234, u235, u236, u237, u238, u239, u240, u241, u242, u243, u244, u245, u246, u247, u248, u249, u250, u251, u252, u253, u254, u255, u256, u257, u258, u259, u260, u261, u262, u263, u264, u265, u266, u267, u268, u269, u270, u271, u272, u273, u274, u275, u276, u277, u278, u279, u280, u281, u282, u283, u284, u285, u286, u287, u288, u289, u290, u291, u292, u293, u294, u295, u296, u297, u298, u299, u300, u301, u302, u303, u304, u305, u306, u307, u308, u309, u310, u311, u312, u313, u314, u315, u316, u317, u318, u319, u320, u321, u322, u323, u324, u325, u326, u327, u328, u329, u330, u331, u332, u333, u334, u335, u336, u337, u338, u339, u340, u341, u342, u343, u344, u345, u346, u347, u348, u349, u350, u351, u352, u353, u354, u355, u356, u357, u358, u359, u360, u361, u362, u363, u364, u365, u366, u367, u368, u369, u370, u371, u372, u373, u374, u375, u376, u377, u378, u379, u380, u381, u382, u383, u384, u385, u386, u387, u388, u389, u390, u391, u392, u393, u394, u395, u396, u397, u398, u399, u400, u401, u402, u403, u404, u405, u406, u407, u408, u409, u410, u411, u412, u413, u414, u415, u416, u417, u418, u419, u420, u421, u422, u423, u424, u425, u426, u427, u428, u429, u430, u431, u432, u433, u434, u435, u436, u437, u438, u439, u440, u441, u442, u443, u444, u445, u446, u447, u448, u449, u450, u451, u452, u453, u454, u455, u456, u457, u458, u459, u460, u461, u462, u463, u464, u465, u466, u467, u468, u469, u470, u471, u472, u473, u474, u475, u476, u477, u478, u479, u480, u481, u482, u483, u484, u485, u486, u487, u488, u489, u490, u491, u492, u493, u494, u495, u496, u497, u498, u499, u500, u501, u502, u503, u504, u505, u506, u507, u508, u509, u510, u511, u512, u513, u514, u515, u516, u517, u518, u519, u520, u521, u522, u523, u524, u525, u526, u527, u528, u529, u530, u531, u532, u533, u534, u535, u536, u537, u538, u539, u540, u541, u542, u543, u544, u545, u546, u547, u548, u549, u550, u551, u552, u553, u554, u555, u556, u557, u558, u559, u560, u561, u562, u563, u564, u565, u566, u567, u568, u569, u570, u571, u572, u573, u574, u575, u576, u577, u578, u579, u580, u581], []⟩ W := by
  conv => arg 2; whnf
  let Q' : Exit → Act → World → Prop := bodyPost Ybaf.prog Ybaf.f3 fun en w' => en = Ending.returned (Value.bool true) ∧ Below w0.heap.size w0 w'
  change Code.wp Ybaf.prog _ Q' _ _
  have HE : Hid (LE w0 W rb A bpi bps bcf bsi bri bfa bs L d ps rs paths) := hLE
  clear hLE
  go_wp2_with fail
  refine (name_any c hc W).mono ?_
  rintro e w1 ⟨rfl, rfl⟩
  go_wp2_with fail
  refine (related_any rb c L d _ _ _ _ _ _ _ _ _ _ _ ps rs paths w1 HE.out.reg hc hd (strs_of_is HE.out.pn) hpl HE.out.psl HE.out.cf hfl (paths_mem HE.out.p3) (fun path hm => list_mem (P := fun s => s < 5) (paths_mem (P := fun path => ∀ j, j < path.length → path.getD j 0 < 5) (fun q hq j hj => HE.out.p5 q j hq hj) path hm)) (strs_of_is HE.out.fa) hrl HE.out.rsl).mono ?_
  rintro e w2 ⟨vg, us, ds, rfl, hR⟩
  have hb2 : Below w1.heap.size w1 w2 := hR.bel
  have HGot : Hid (Strs AnyB w2 vg ((ps.filter (modelB L d c rs paths)).map nameOf)) := by
    have hfc : ps.filter (relB L d c us (c :: us ++ ds) (kinOf L d rs (c :: us)) paths) = ps.filter (modelB L d c rs paths) := filter_congr_mem fun q hq => relB_model HE.out.good hc rs us ds paths q (HE.out.psl q hq) hR.mu hR.md
    have h1 := (row_of_owns hR.own).mono (ok' := AnyB) (fun _ _ _ => trivial)
    rw [hfc] at h1
    show Row AnyB w2 vg ((ps.filter (modelB L d c rs paths)).map nameOf).length 1 (((ps.filter (modelB L d c rs paths)).map nameOf).map Value.string)
    rw [List.length_map, List.map_map]
    exact h1
  have HB2 : Hid (Below w1.heap.size w1 w2) := hb2
  clear hb2 hR
  have HArr : Hid (∀ W', Below w1.heap.size w1 W' → ∀ j, j < 7 → W'.rowIs (A + j) (arrT j) L.length (arrV L d j)) := fun W' hb j hj => (HE.out.arr j hj).of_block (hb.block _ (HE.out.arr j hj).lt)
  have HRea : Hid (∀ up W', Below w1.heap.size w1 W' → Calls Ybaf.prog 16 #[.slice (some ⟨A + 1, 0, none⟩) L.length L.length, .slice (some ⟨A + 2, 0, none⟩) L.length L.length, .slice (some ⟨A + 6, 0, none⟩) L.length L.length, .int .i64 c, .bool up] W' fun e w' => e = .returned (.agg #[.bool (roundIn L d up c 7 0), .bool (roundIn L d up c 7 1), .bool (roundIn L d up c 7 2), .bool (roundIn L d up c 7 3), .bool (roundIn L d up c 7 4), .bool (roundIn L d up c 7 5), .bool (roundIn L d up c 7 6)]) ∧ Below W'.heap.size W' w') := fun up W' hb =>
    areach_any L d up c _ _ _ W' hL HE.out.good hc (row_of_is (HArr.out W' hb 1 (by decide))) (row_of_is (HArr.out W' hb 2 (by decide))) (row_of_is (HArr.out W' hb 6 (by decide)))
  go_wp2_with fail
  refine (HRea.out true w2 HB2.out).mono ?_
  rintro e w3 ⟨rfl, hb3⟩
  have HB3 : Hid (Below w2.heap.size w2 w3) := hb3
  clear hb3
  have HU : Hid (Arr (w3.alloc (.cells #[.bool (roundIn L d true c 7 0), .bool (roundIn L d true c 7 1), .bool (roundIn L d true c 7 2), .bool (roundIn L d true c 7 3), .bool (roundIn L d true c 7 4), .bool (roundIn L d true c 7 5), .bool (roundIn L d true c 7 6)] 63)) w3.heap.size (roundIn L d true c 7)) := Arr.new w3 (roundIn L d true c 7)
  have HBU : Hid (Below w2.heap.size w2 (w3.alloc (.cells #[.bool (roundIn L d true c 7 0), .bool (roundIn L d true c 7 1), .bool (roundIn L d true c 7 2), .bool (roundIn L d true c 7 3), .bool (roundIn L d true c 7 4), .bool (roundIn L d true c 7 5), .bool (roundIn L d true c 7 6)] 63))) := HB3.out.alloc HB3.out.size _
  have lU := HB3.out.size
  go_upto_region 68 with fail
  generalize w3.alloc (.cells #[.bool (roundIn L d true c 7 0), .bool (roundIn L d true c 7 1), .bool (roundIn L d true c 7 2), .bool (roundIn L d true c 7 3), .bool (roundIn L d true c 7 4), .bool (roundIn L d true c 7 5), .bool (roundIn L d true c 7 6)] 63) = wU at *
  generalize w3.heap.size = bU at *
  clear HB3
  go_wp2_with fail
  refine (HRea.out false wU (HB2.out.trans (HBU.out.mono HB2.out.size))).mono ?_
  rintro e w4 ⟨rfl, hb4⟩
  have HU4 : Hid (Arr w4 bU (roundIn L d true c 7)) := HU.out.below hb4
  have HB4 : Hid (Below w2.heap.size w2 w4) := HBU.out.trans (hb4.mono HBU.out.size)
  have lUD : bU < w4.heap.size := HU4.out.lt
  clear hb4 HU HBU
  have HD : Hid (Arr (w4.alloc (.cells #[.bool (roundIn L d false c 7 0), .bool (roundIn L d false c 7 1), .bool (roundIn L d false c 7 2), .bool (roundIn L d false c 7 3), .bool (roundIn L d false c 7 4), .bool (roundIn L d false c 7 5), .bool (roundIn L d false c 7 6)] 63)) w4.heap.size (roundIn L d false c 7)) := Arr.new w4 (roundIn L d false c 7)
  have HBD : Hid (Below w2.heap.size w2 (w4.alloc (.cells #[.bool (roundIn L d false c 7 0), .bool (roundIn L d false c 7 1), .bool (roundIn L d false c 7 2), .bool (roundIn L d false c 7 3), .bool (roundIn L d false c 7 4), .bool (roundIn L d false c 7 5), .bool (roundIn L d false c 7 6)] 63))) := HB4.out.alloc HB4.out.size _
  have HUD : Hid (Arr (w4.alloc (.cells #[.bool (roundIn L d false c 7 0), .bool (roundIn L d false c 7 1), .bool (roundIn L d false c 7 2), .bool (roundIn L d false c 7 3), .bool (roundIn L d false c 7 4), .bool (roundIn L d false c 7 5), .bool (roundIn L d false c 7 6)] 63)) bU (roundIn L d true c 7)) := HU4.out.below ((Below.refl _ w4).alloc (Nat.le_refl _) _)
  go_upto_region 69 with fail
  generalize w4.alloc (.cells #[.bool (roundIn L d false c 7 0), .bool (roundIn L d false c 7 1), .bool (roundIn L d false c 7 2), .bool (roundIn L d false c 7 3), .bool (roundIn L d false c 7 4), .bool (roundIn L d false c 7 5), .bool (roundIn L d false c 7 6)] 63) = wD at *
  generalize w4.heap.size = bD at *
  clear HU4 HB4
  have lDW : bD < wD.heap.size := HD.out.lt
  obtain ⟨h1, h2, h3, h4⟩ := three_new wD _ rfl
  have HW : Hid (Arr (((wD.alloc (.cells #[.bool false, .bool false, .bool false, .bool false, .bool false, .bool false, .bool false] 63)).alloc (.cells #[.bool false, .bool false, .bool false, .bool false, .bool false, .bool false, .bool false] 63)).alloc (.cells #[.bool false, .bool false, .bool false, .bool false, .bool false, .bool false, .bool false] 63)) wD.heap.size (fun _ => false)) := h1
  have HR : Hid (Arr (((wD.alloc (.cells #[.bool false, .bool false, .bool false, .bool false, .bool false, .bool false, .bool false] 63)).alloc (.cells #[.bool false, .bool false, .bool false, .bool false, .bool false, .bool false, .bool false] 63)).alloc (.cells #[.bool false, .bool false, .bool false, .bool false, .bool false, .bool false, .bool false] 63)) (wD.heap.size + 1) (fun _ => false)) := h2
  have HK : Hid (Arr (((wD.alloc (.cells #[.bool false, .bool false, .bool false, .bool false, .bool false, .bool false, .bool false] 63)).alloc (.cells #[.bool false, .bool false, .bool false, .bool false, .bool false, .bool false, .bool false] 63)).alloc (.cells #[.bool false, .bool false, .bool false, .bool false, .bool false, .bool false, .bool false] 63)) (wD.heap.size + 1 + 1) (fun _ => false)) := h3
  have HZ : Hid (Below wD.heap.size wD (((wD.alloc (.cells #[.bool false, .bool false, .bool false, .bool false, .bool false, .bool false, .bool false] 63)).alloc (.cells #[.bool false, .bool false, .bool false, .bool false, .bool false, .bool false, .bool false] 63)).alloc (.cells #[.bool false, .bool false, .bool false, .bool false, .bool false, .bool false, .bool false] 63))) := h4
  clear h1 h2 h3 h4
  go_upto_region 70 with fail
  generalize (((wD.alloc (.cells #[.bool false, .bool false, .bool false, .bool false, .bool false, .bool false, .bool false] 63)).alloc (.cells #[.bool false, .bool false, .bool false, .bool false, .bool false, .bool false, .bool false] 63)).alloc (.cells #[.bool false, .bool false, .bool false, .bool false, .bool false, .bool false, .bool false] 63)) = wZ at *
  have HUZ : Hid (Arr wZ bU (roundIn L d true c 7)) := HUD.out.below HZ.out
  have HDZ : Hid (Arr wZ bD (roundIn L d false c 7)) := HD.out.below HZ.out
  have HBZ : Hid (Below w2.heap.size w2 wZ) := HBD.out.trans (HZ.out.mono HBD.out.size)
  generalize wD.heap.size = bW at *
  go_upto_block 10 with fail
  refine loop6 w2 wZ bU bD bW (bW + 1) (bW + 1 + 1) c L d _ _ _ _ _ _ _ _ _ _ _ _ _ _ _ _ _ _ _ _ _ _ _ _ _ _ _ _ _ _ _ _ _ _ _ _ _ _ _ _ _ _ _ _ _ _ _ _ _ _ _ _ _ _ _ _ _ _ _ _ _ _ _ _ _ _ _ _ _ _ _ _ _ _ _ _ _ _ _ _ _ _ _ _ _ _ _ _ _ _ _ _ _ _ _ _ _ _ _ _ _ _ _ _ _ _ _ _ _ _ _ _ _ _ _ _ _ _ _ _ _ _ _ _ _ _ _ _ _ _ _ _ _ _ _ _ _ _ _ _ _ _ _ _ _ _ _ _ _ _ _ _ _ _ _ _ _ _ _ _ _ _ _ _ _ _ _ _ _ _ _ _ _ _ _ _ _ _ _ _ _ _ _ _ _ _ _ _ _ _ _ _ _ _ _ _ _ _ _ _ _ _ _ _ _ _ _ _ _ _ _ _ _ _ _ _ _ _ _ _ _ _ _ _ _ _ _ _ _ _ _ _ _ _ _ _ _ _ _ _ _ _ _ _ _ _ _ _ _ _ _ _ _ _ _ _ _ _ _ _ _ _ _ _ _ _ _ _ _ _ _ _ _ _ _ _ _ _ _ _ _ _ _ _ _ _ _ _ _ _ _ _ _ _ _ _ _ _ _ _ _ _ _ _ _ _ _ _ _ _ _ _ _ _ _ _ _ _ _ _ _ _ _ _ _ _ _ _ _ _ _ _ _ _ _ _ _ _ _ _ _ _ _ _ _ _ _ _ _ _ _ _ _ _ _ _ _ _ _ _ _ _ _ _ _ _ _ _ _ _ _ _ _ _ _ _ _ _ _ _ _ _ _ _ _ _ _ _ _ _ _ _ _ _ _ _ _ _ _ _ _ _ _ _ _ _ _ _ _ _ _ _ _ _ _ _ _ _ _ _ _ _ _ _ _ _ _ _ _ _ _ _ _ _ _ _ _ _ _ _ _ _ _ _ _ _ _ _ _ _ _ _ _ _ _ _ _ _ _ _ _ _ _ _ _ _ _ _ _ _ _ _ _ _ _ _ _ _ _ _ _ _ _ _ _ _ _ _ _ _ _ _ _ _ _ _ _ _ _ _ _ _ _ _ _ _ _ _ _ _ _ _ _ _ _ _ _ _ _ _ _ _ _ _ _ _ _ _ _ _ _ _ _ _ _ _ _ _ _ _ _ _ _ _ _ _ _ _ _ _ _ _ _ _ _ _ _ _ _ _ _ _ _ _ _ _ _ _ _ _ _ _ _ _ _ _ _ hc lU lUD lDW (Nat.lt_succ_self _) (Nat.lt_succ_self _) HBZ HUZ HDZ HW HR HK ?_
  intro x49 x354 x355 x356 x357 x358 x359 x360 x361 x362 x363 x364 x365 x366 x367 x368 x369 x370 x371 x372 x373 x374 x375 x376 x377 x378 x379 x380 x381 x382 x383 x384 x385 x386 x387 x388 x389 x390 x391 x392 x393 x394 x395 w6 hb6 hU6 hW6 hR6 hK6
  clear HBZ HUZ HDZ HW HR HK HZ HUD HD HBD
  have HA2 : Hid (∀ j, j < 7 → w2.rowIs (A + j) (arrT j) L.length (arrV L d j)) := HArr.out w2 HB2.out
  have HGd : Hid (∀ i, i < L.length → (L.getD i r0).ok) := HE.out.good
  have HRI : Hid (w2.rowIs bri 3 rs.length (fun i => .int .i64 (rs.getD i 0 : Nat))) := HE.out.ri.of_block (HB2.out.block _ HE.out.ri.lt)
  go_upto_block 12 with fail
  refine loop7 w2 w6 A bri bW (bW + 1 + 1) c rs L d _ _ _ _ _ _ _ _ _ _ _ _ _ _ _ _ _ _ _ _ _ _ _ _ _ _ _ _ _ _ _ _ _ _ _ _ _ _ _ _ _ _ _ _ _ _ _ _ _ _ _ _ _ _ _ _ _ _ _ _ _ _ _ _ _ _ _ _ _ _ _ _ _ _ _ _ _ _ _ _ _ _ _ _ _ _ _ _ _ _ _ _ _ _ _ _ _ _ _ _ _ _ _ _ _ _ _ _ _ _ _ _ _ _ _ _ _ _ _ _ _ _ _ _ _ _ _ _ _ _ _ _ _ _ _ _ _ _ _ _ _ _ _ _ _ _ _ _ _ _ _ _ _ _ _ _ _ _ _ _ _ _ _ _ _ _ _ _ _ _ _ _ _ _ _ _ _ _ _ _ _ _ _ _ _ _ _ _ _ _ _ _ _ _ _ _ _ _ _ _ _ _ _ _ _ _ _ _ _ _ _ _ _ _ _ _ _ _ _ _ _ _ _ _ _ _ _ _ _ _ _ _ _ _ _ _ _ _ _ _ _ _ _ _ _ _ _ _ _ _ _ _ _ _ _ _ _ _ _ _ _ _ _ _ _ _ _ _ _ _ _ _ _ _ _ _ _ _ _ _ _ _ _ _ _ _ _ _ _ _ _ _ _ _ _ _ _ _ _ _ _ _ _ _ _ _ _ _ _ _ _ _ _ _ _ _ _ _ _ _ _ _ _ _ _ _ _ _ _ _ _ _ _ _ _ _ _ _ _ _ _ _ _ _ _ _ _ _ _ _ _ _ _ _ _ _ _ _ _ _ _ _ _ _ _ _ _ _ _ _ _ _ _ _ _ _ _ _ _ _ _ _ _ _ _ _ _ _ _ _ _ _ _ _ _ _ _ _ _ _ _ _ _ _ _ _ _ _ _ _ _ _ _ _ _ _ _ _ _ _ _ _ _ _ _ _ _ _ _ _ _ _ _ _ _ _ _ _ _ _ _ _ _ _ _ _ _ _ _ _ _ _ _ _ _ _ _ _ _ _ _ _ _ _ _ _ _ _ _ _ _ _ _ _ _ _ _ _ _ _ _ _ _ _ _ _ _ _ _ _ _ _ _ _ _ _ _ _ _ _ _ _ _ _ _ _ _ _ _ _ _ _ _ _ _ _ _ _ _ _ _ _ _ _ _ _ _ _ _ _ _ _ _ _ _ _ _ _ _ _ _ _ _ _ _ _ _ _ _ _ _ _ _ _ _ _ _ _ _ _ _ _ _ _ _ _ _ _ _ _ _ _ hL hrl (by omega) (by omega) HGd HA2 HRI hb6 hW6 hK6 (fun b => b ≠ bW + 1 + 1) (fun b hb => hb) ?_
  intro x50 x396 x397 x398 x399 x400 x401 x402 x403 x404 x405 x406 x407 x408 x409 x410 x411 x412 x413 x414 x415 x416 x417 x418 x419 x420 x421 x422 x423 x424 x425 w7 hb7 hO7 hz7 hK7
  have hLG : LG w0 w7 A c bpi bps bsi bU (bW + 1) (bW + 1 + 1) bs L d ps rs paths vg := by
    have hb17 : Below w1.heap.size w1 w7 := HB2.out.trans (hb7.out.mono HB2.out.size)
    refine ⟨HE.out.good, HE.out.psl, HE.out.p3, HE.out.p5, HArr.out w7 hb17, HE.out.pi.of_block (hb17.block _ HE.out.pi.lt), HE.out.pn.of_block (hb17.block _ HE.out.pn.lt), HE.out.si.of_block (hb17.block _ HE.out.si.lt), fun q hq => (HE.out.sj q hq).of_block (hb17.block _ (HE.out.sj q hq).lt), hU6.out.of_block (hO7.out bU (by omega)) (by omega), hR6.out.of_block (hO7.out (bW + 1) (by omega)) (by omega), hK7.out, ?_, HE.out.bel.trans (hb17.mono HE.out.bel.size)⟩
    exact HGot.out.keep (fun b _ hb => ⟨hb7.out.block b hb, trivial⟩) hb7.out.size
  have hK := ‹∀ (a : Act) (w : World), Code.wp Ybaf.prog _ _ a w → _›
  refine hK _ _ ?_
  exact partG w0 w7 A c bpi bps bsi bU (bW + 1) (bW + 1 + 1) bs L d ps rs paths vg _ _ _ _ _ _ _ _ _ _ _ _ _ _ _ _ _ _ _ _ _ _ _ _ _ _ _ _ _ _ _ _ _ _ _ _ _ _ _ _ _ _ _ _ _ _ _ _ _ _ _ _ _ _ _ _ _ _ _ _ _ _ _ _ _ _ _ _ _ _ _ _ _ _ _ _ _ _ _ _ _ _ _ _ _ _ _ _ _ _ _ _ _ _ _ _ _ _ _ _ _ _ _ _ _ _ _ _ _ _ _ _ _ _ _ _ _ _ _ _ _ _ _ _ _ _ _ _ _ _ _ _ _ _ _ _ _ _ _ _ _ _ _ _ _ _ _ _ _ _ _ _ _ _ _ _ _ _ _ _ _ _ _ _ _ _ _ _ _ _ _ _ _ _ _ _ _ _ _ _ _ _ _ _ _ _ _ _ _ _ _ _ _ _ _ _ _ _ _ _ _ _ _ _ _ _ _ _ _ _ _ _ _ _ _ _ _ _ _ _ _ _ _ _ _ _ _ _ _ _ _ _ _ _ _ _ _ _ _ _ _ _ _ _ _ _ _ _ _ _ _ _ _ _ _ _ _ _ _ _ _ _ _ _ _ _ _ _ _ _ _ _ _ _ _ _ _ _ _ _ _ _ _ _ _ _ _ _ _ _ _ _ _ _ _ _ _ _ _ _ _ _ _ _ _ _ _ _ _ _ _ _ _ _ _ _ _ _ _ _ _ _ _ _ _ _ _ _ _ _ _ _ _ _ _ _ _ _ _ _ _ _ _ _ _ _ _ _ _ _ _ _ _ _ _ _ _ _ _ _ _ _ _ _ _ _ _ _ _ _ _ _ _ _ _ _ _ _ _ _ _ _ _ _ _ _ _ _ _ _ _ _ _ _ _ _ _ _ _ _ _ _ _ _ _ _ _ _ _ _ _ _ _ _ _ _ _ _ _ _ _ _ _ _ _ _ _ _ _ _ _ _ _ _ _ _ _ _ _ _ _ _ _ _ _ _ _ _ _ _ _ _ _ _ _ _ _ _ _ _ _ _ _ _ _ _ _ _ _ _ _ _ _ _ _ _ _ _ _ _ _ _ _ _ _ _ _ _ _ _ _ _ _ _ _ _ _ _ _ _ _ _ _ _ _ _ _ _ _ _ _ _ _ _ _ _ _ _ _ _ _ _ _ _ _ _ _ _ _ _ _ _ _ _ _ _ _ _ _ _ _ _ _ _ _ _ _ _ _ _ _ _ _ _ _ _ _ _ _ _ _ _ _ _ _ hL hc hpl hfl hLG

end Go.Proofs.YbulkcfwsFmt
