import Derived.Test.YbulkcfwsFmtLoop9
import Derived.Test.YbulkcfwsFmtLoop10
namespace Go.Proofs.YbulkcfwsFmt
open Go.RowKit

/-- What stands when the answers are to be compared. -/
structure LG (w0 W1 : World) (A c bpi bps bsi bU bR bK : Nat) (bs : Nat → Nat) (L : List Rel) (d : Int) (ps rs : List Nat) (paths : List (List Nat)) (vgot : Value) : Prop where
  good : ∀ i, i < L.length → (L.getD i r0).ok
  psl : ∀ q ∈ ps, q < 7
  p3 : ∀ q, q < paths.length → (paths.getD q []).length ≤ 3
  p5 : ∀ q j, q < paths.length → j < (paths.getD q []).length → (paths.getD q []).getD j 0 < 5
  arr : ∀ j, j < 7 → W1.rowIs (A + j) (arrT j) L.length (arrV L d j)
  pi : W1.rowIs bpi 3 ps.length (fun i => .int .i64 (ps.getD i 0 : Nat))
  pn : W1.rowIs bps 9 ps.length (fun i => .string (nameOf (ps.getD i 0)))
  si : W1.rowIs bsi 27 paths.length (fun q => .slice (some ⟨bs q, 0, none⟩) (paths.getD q []).length (paths.getD q []).length)
  sj : ∀ q, q < paths.length → W1.rowIs (bs q) 3 (paths.getD q []).length (fun j => .int .i64 ((paths.getD q []).getD j 0 : Nat))
  up : Arr W1 bU (roundIn L d true c 7)
  ar : Arr W1 bR (aroundB L d c)
  kn : Arr W1 bK (kinKB L d c rs L.length)
  got : Strs AnyB W1 vgot ((ps.filter (modelB L d c rs paths)).map nameOf)
  bel : Below w0.heap.size w0 W1

theorem equal_any (W : World) (v1 v2 : Value) (ids : List Nat) (h1 : Strs AnyB W v1 (ids.map nameOf)) (h2 : Strs AnyB W v2 (ids.map nameOf)) (hl : ids.length ≤ 4096) :
    Calls Ybaf.prog 19 #[v1, v2] W fun e w' => e = .returned (.bool true) ∧ Below W.heap.size W w' := by
  have hm : (ids.map nameOf).length = ids.length := by simp
  by_cases h0 : ids.length = 0
  · obtain ⟨a1, c1, rfl⟩ := h1.form
    obtain ⟨a2, c2, rfl⟩ := h2.form
    rw [hm, h0]
    refine (Ybaf.slices_Equal_string_empty a1 a2 c1 0 c2 W (by omega)).mono ?_
    rintro e w' ⟨rfl, rfl⟩
    exact ⟨rfl, Below.refl _ _⟩
  · obtain ⟨b1, o1, c1, rfl, -, -, hc1⟩ := Row.cell h1 (by omega)
    obtain ⟨b2, o2, c2, rfl, -, -, hc2⟩ := Row.cell h2 (by omega)
    have key : ∀ j, j < (ids.map nameOf).length → ((ids.map nameOf).map Value.string)[j]? = some (.string ((ids.map nameOf).getD j ByteArray.empty)) := fun j hj => by
      rw [List.getElem?_map, List.getElem?_eq_getElem hj]
      simp [List.getD, List.getElem?_eq_getElem hj]
    refine (Ybaf.slices_Equal_string b1 o1 _ c1 b2 o2 _ c2 (ids.map nameOf) (ids.map nameOf) W (Nat.le_refl _) (Nat.le_refl _) (by omega) (by omega) (fun j hj => hc1 j _ (key j hj)) (fun j hj => hc2 j _ (key j hj))).mono ?_
    rintro e w' ⟨rfl, q, rfl⟩
    refine ⟨by simp, ?_⟩
    induction q with
    | zero => exact Below.refl _ _
    | succ q ih => exact ih.drew

/-- The answer as far as it is made. -/
structure GI (W1 : World) (ids : List Nat) (v : Value) (W : World) : Prop where
  own : W.ownsRow W1.heap.size 9 1 v ids.length (nmS ids)
  bel : Below W1.heap.size W1 W

theorem GI.strs {W1 W : World} {ids : List Nat} {v : Value} (h : GI W1 ids v W) : Strs AnyB W v (ids.map nameOf) := by
  have h1 := (row_of_owns h.own).mono (ok' := AnyB) (fun _ _ _ => trivial)
  show Row AnyB W v (ids.map nameOf).length 1 ((ids.map nameOf).map Value.string)
  rw [List.length_map, List.map_map]
  exact h1

theorem GI.below {W1 W W' : World} {ids : List Nat} {v : Value} (h : GI W1 ids v W) (hb : Below W.heap.size W W') : GI W1 ids v W' :=
  ⟨owns_heap h.own (fun g hg => hb.block g (h.own.lt g hg).2), h.bel.trans (hb.mono h.bel.size)⟩

theorem GI.append {W1 W W' : World} {ids : List Nat} {q : Nat} {v v' : Value} (h : GI W1 ids v W) (hown : W'.ownsRow W1.heap.size 9 1 v' (ids.length + 1) (nmS ids ++ [.string (nameOf q)])) (hg : W.grownBy W' v.ownBlock) : GI W1 (ids ++ [q]) v' W' := by
  refine ⟨?_, h.bel.grown hg h.bel.size (fun k hk => (h.own.lt k hk).1)⟩
  rw [nmS_snoc, List.length_append]
  exact hown

theorem filter_take (ps : List Nat) (f : Nat → Bool) (k : Nat) (h : k < ps.length) : (ps.take (k + 1)).filter f = (ps.take k).filter f ++ (if f (ps.getD k 0) = true then [ps.getD k 0] else []) := by
  rw [List.take_succ_eq_append_getElem h, List.filter_append]
  simp only [List.getD, List.getElem?_eq_getElem h, Option.getD_some]
  congr 1
  cases e : f ps[k] <;> simp [e]

theorem getD_mem {ps : List Nat} {k : Nat} (h : k < ps.length) : ps.getD k 0 ∈ ps := by
  simp [List.getD, List.getElem?_eq_getElem h]

set_option maxHeartbeats 20000000 in
set_option maxRecDepth 100000 in
theorem partG (w0 W1 : World) (A c bpi bps bsi bU bR bK : Nat) (bs : Nat → Nat) (L : List Rel) (d : Int) (ps rs : List Nat) (paths : List (List Nat)) (vgot : Value) (u0 u1 u2 u3 u4 u5 u6 u7 u8 u9 u10 u11 u12 u14 u22 u23 u24 u25 u26 u27 u31 u32 u34 u36 u37 u38 u39 u40 u41 u42 u45 u46 u49 u50 u51 u52 u53 u54 u55 u56 u57 u58 u59 u60 u61 u62 u63 u64 u65 u66 u67 u68 u69 u70 u71 u72 u73 u74 u75 u76 u77 u78 u79 u80 u81 u82 u83 u84 u85 u86 u87 u88 u89 u90 u91 u92 u93 u94 u95 u96 u97 u98 u99 u100 u101 u102 u103 u104 u105 u106 u107 u108 u109 u110 u111 u112 u113 u114 u115 u116 u117 u118 u119 u120 u121 u122 u123 u124 u125 u126 u127 u128 u129 u130 u131 u132 u133 u134 u135 u136 u137 u138 u139 u140 u141 u142 u143 u144 u145 u146 u147 u148 u149 u150 u151 u152 u153 u154 u155 u156 u157 u158 u159 u160 u161 u162 u163 u164 u165 u166 u167 u168 u169 u170 u171 u172 u173 u174 u175 u176 u177 u178 u179 u180 u181 u182 u183 u184 u185 u186 u187 u188 u189 u190 u191 u192 u193 u194 u195 u196 u197 u198 u199 u200 u201 u202 u203 u204 u205 u206 u207 u208 u209 u210 u211 u212 u213 u214 u215 u216 u217 u218 u219 u220 u221 u222 u223 u224 u225 u226 u227 u228 u229 u230 u231 u232 u233 u234 u235 u236 u237 u238 u239 u240 u241 u242 u243 u244 u245 u246 u247 u248 u249 u250 u251 u252 u253 u254 u255 u256 u257 u258 u259 u260 u261 u262 u263 u264 u265 u266 u267 u268 u269 u270 u271 u272 u273 u274 u275 u276 u277 u278 u279 u280 u281 u282 u283 u284 u285 u286 u287 u288 u289 u290 u291 u292 u293 u294 u295 u296 u297 u298 u299 u300 u301 u302 u303 u304 u305 u306 u307 u308 u309 u310 u311 u312 u313 u314 u315 u316 u317 u318 u319 u320 u321 u322 u323 u324 u325 u326 u327 u328 u329 u330 u331 u332 u333 u334 u335 u336 u337 u338 u339 u340 u341 u342 u343 u344 u345 u346 u347 u348 u349 u350 u351 u352 u353 u354 u355 u356 u357 u358 u359 u360 u361 u362 u363 u364 u365 u366 u367 u368 u369 u370 u371 u372 u373 u374 u375 u376 u377 u378 u379 u380 u381 u382 u383 u384 u385 u386 u387 u388 u389 u390 u391 u392 u393 u394 u395 u396 u397 u398 u399 u400 u401 u402 u403 u404 u405 u406 u407 u408 u409 u410 u411 u412 u413 u414 u415 u416 u417 u418 u419 u420 u421 u422 u423 u424 u425 u426 u427 u428 u429 u430 u431 u432 u433 u434 u435 u436 u437 u438 u439 u440 u441 u442 u443 u444 u445 u446 u447 u448 u449 u450 u451 u452 u453 u454 u455 u456 u457 u458 u459 u460 u461 u462 u463 u464 u465 u466 u467 u468 u469 u470 u471 u472 u473 u474 u475 u476 u477 u478 u479 u480 u481 u482 u483 u484 u485 u486 u487 u488 u489 u490 u491 u492 u493 u494 u495 u496 u497 u498 u499 u500 u501 u502 u503 u504 u505 u506 u507 u508 u509 u510 u511 u512 u513 u514 u515 u516 u517 u518 u519 u520 u521 u522 u523 u524 u525 u526 u527 u528 u529 u530 u531 u532 u533 u534 u535 u536 u537 u538 u539 u540 u541 u542 u543 u544 u545 u546 u547 u548 u549 u550 u551 u552 u553 u554 u555 u556 u557 u558 u559 u560 u561 u562 u563 u564 u565 u566 u567 u568 u569 u570 u571 u572 u573 u574 u575 u576 u577 u578 u579 u580 u581 : Value)
    (hL : L.length ≤ 32) (hc : c < 7) (hpl : ps.length ≤ 1024) (hfl : paths.length ≤ 16) (hLG : LG w0 W1 A c bpi bps bsi bU bR bK bs L d ps rs paths vgot) :
    Code.wp Ybaf.prog (tailAt 81 (Ybaf.f3.body.getD .skip)) (bodyPost Ybaf.prog Ybaf.f3 fun en w' => en = Ending.returned (Value.bool true) ∧ Below w0.heap.size w0 w')
      ⟨#[u0, u1, u2, u3, u4, u5, u6, u7, u8, u9, u10, u11, u12, .int .i64 (L.length : Nat), u14, .slice (some ⟨A, 0, none⟩) L.length L.length, .slice (some ⟨(A + 1), 0, none⟩) L.length L.length, .slice (some ⟨(A + 2), 0, none⟩) L.length L.length, .slice (some ⟨(A + 3), 0, none⟩) L.length L.length, .slice (some ⟨(A + 4), 0, none⟩) L.length L.length, .slice (some ⟨(A + 5), 0, none⟩) L.length L.length, .slice (some ⟨(A + 6), 0, none⟩) L.length L.length, u22, u23, u24, u25, u26, u27, .int .i64 (c : Nat), .slice (some ⟨bpi, 0, none⟩) ps.length ps.length, .slice (some ⟨bps, 0, none⟩) ps.length ps.length, u31, u32, .int .i64 (paths.length : Nat), u34, .slice (some ⟨bsi, 0, none⟩) paths.length paths.length, u36, u37, u38, u39, u40, u41, u42, vgot, .pointer (some ⟨bU, 0, none⟩), u45, u46, .pointer (some ⟨bR, 0, none⟩), .pointer (some ⟨bK, 0, none⟩), u49, u50, u51, u52, u53, u54, u55, u56, u57, u58, u59, u60, u61, u62, u63, u64, u65, u66, u67, u68, u69, u70, u71, u72, u73, u74, u75, u76, u77, u78, u79, u80, u81, u82, u83, u84, u85, u86, u87, u88, u89, u90, u91, u92, u93, u94, u95, u96, u97, u98, u99, u100, u101, u102, u103, u104, u105, u106, u107, u108, u109, u110, u111, u112, u113, u114, u115, u116, u117, u118, u119, u120, u121, u122, u123, u124, u125, u126, u127, u128, u129, u130, u131, u132, u133, u134, u135, u136, u137, u138, u139, u140, u141, u142, u143, u144, u145, u146, u147, u148, u149, u150, u151, u152, u153, u154, u155, u156, u157, u158, u159, u160, u161, u162, u163, u164, u165, u166, u167, u168, u169, u170, u171, u172, u173, u174, u175, u176, u177, u178, u179, u180, u181, u182, u183, u184, u185, u186, u187, u188, u189, u190, u191, u192, u193, u194, u195, u196, u197, u198, u199, u200, u201, u202, u203, u204, u205, u206, u207, u208, u209, u210, u211, u212, u213, u214, u215, u216, u217, u218, u219, u220, u221, u222, u223, u224, u225, u226, u227, u228, u229, u230, u231, u232, u233, u234, u235, u236, u237, u238, u239, u240, u241, u242, u243, u244, u245, u246, u247, u248, u249, u250, u251, u252, u253, u254, u255, u256, u257, u258, u259, u260, u261, u262, u263, u264, u265, u266, u267, u268, u269, u270, u271, u272, u273, u274, u275, u276, u277, u278, u279, u280, u281, u282, u283, u284, u285, u286, u287, u288, u289, u290, u291, u292, u293, u294, u295, u296, u297, u298, u299, u300, u301, u302, u303, u304, u305, u306, u307, u308, u309, u310, u311, u312, u313, u314, u315, u316, u317, u318, u319, u320, u321, u322, u323, u324, u325, u326, u327, u328, u329, u330, u331, u332, u333, u334, u335, u336, u337, u338, u339, u340, u341, u342, u343, u344, u345, u346, u347, u348, u349, u350, u351, u352, u353, u354, u355, u356, u357, u358, u359, u360, u361, u362, u363, u364, u365, u366, u367, u368, u369, u370, u371, u372, u373, u374, u375, u376, u377, u378, u379, u380, u381, u382, u383, u384, u385, u386, u387, u388, u389, u390, u391, u392, u393, u394, u395, u396, u397, u398, u399, u400, u401, u402, u403, u404, u405, u406, u407, u408, u409, u410, u411, u412, u413, u414, u415, u416, u417, u418, u419, u420, u421, u422, u423, u424, u425, u426, u427, u428, u429, u430, u431, u432, u433, u434, u435, u436, u437, u438, u439, u440, u441, u442, u443, u444, u445, u446, u447, u448, u449, u450, u451, u452, u453, u454, u455, u456, u457, u458, u459, u460, u461, u462, u463, u464, u465, u466, u467, u468, u469, u470, u471, u472, u473, u474, u475, u476, u477, u478, u479, u480, u481, u482, u483, u484, u485, u486, u487, u488, u489, u490, u491, u492, u493, u494, u495, u496, u497, u498, u499, u500, u501, u502, u503, u504, u505, u506, u507, u508, u509, u510, u511, u512, u513, u514, u515, u516, u517, u518, u519, u520, u521, u522, u523, u524, u525, u526, u527, u528, u529, u530, u531, u532, u533, u534, u535, u536, u537, u538, u539, u540, u541, u542, u543, u544, u545, u546, u547, u548, u549, u550, u551, u552, u553, u554, u555, u556, u557, u558, u559, u560, u561, u562, u563, u564, u565, u566, u567, u568, u569, u570, u571, u572, u573, u574, u575, u576, u577, u578, u579, u580, u581], []⟩ W1 := by
  conv => arg 2; whnf
  let Q' : Exit → Act → World → Prop := bodyPost Ybaf.prog Ybaf.f3 fun en w' => en = Ending.returned (Value.bool true) ∧ Below w0.heap.size w0 w'
  change Code.wp Ybaf.prog _ Q' _ _
  have HG : Hid (LG w0 W1 A c bpi bps bsi bU bR bK bs L d ps rs paths vgot) := hLG
  clear hLG
  obtain ⟨i0, hi0, hz0, hz1, hz2⟩ := info_parts info9
  go_wp2_with fail
  go_loopw [51, 428] (fun v i wr => ∃ k : Nat, k ≤ ps.length ∧ i = .int .i64 k ∧ Hid (GI W1 ((ps.take k).filter (modelB L d c rs paths)) v wr)) (fun _ i _ => ps.length - (intOf i).toNat)
  case atStart => exact ⟨0, by omega, rfl, ⟨⟨by simp [nmS], .inl ⟨rfl, by simp⟩⟩, Below.refl _ _⟩⟩
  case round =>
    obtain ⟨k, hk, rfl, hI⟩ := hrel
    by_cases hlt : k < ps.length
    · have hp7 : ps.getD k 0 < 7 := HG.out.psl _ (getD_mem hlt)
      have y0 : wr.cell? ⟨bpi, k, none⟩ = some (.int .i64 (ps.getD k 0 : Nat)) := (hI.out.bel.cell (p := ⟨bpi, k, none⟩) HG.out.pi.lt).trans (HG.out.pi.cell hlt)
      have Y1 : Hid (W1.cell? ⟨bps, k, none⟩ = some (.string (nameOf (ps.getD k 0)))) := HG.out.pn.cell hlt
      have Hfs : Hid ((ps.take (k + 1)).filter (modelB L d c rs paths) = (ps.take k).filter (modelB L d c rs paths) ++ (if modelB L d c rs paths (ps.getD k 0) = true then [ps.getD k 0] else [])) := filter_take ps _ k hlt
      have hlen : ((ps.take k).filter (modelB L d c rs paths)).length ≤ 1024 := Nat.le_trans (List.length_filter_le _ _) (by rw [List.length_take]; omega)
      obtain ⟨p, hp⟩ : ∃ p, ps.getD k 0 = p := ⟨_, rfl⟩
      rw [hp] at hp7 y0 Y1 Hfs
      clear hp
      have yu : wr.cell? ⟨bU, p, none⟩ = some (.bool (roundIn L d true c 7 p)) := (HG.out.up.below hI.out.bel).cell p hp7
      have Hw : Hid (withB L d c p = (p == c || (roundIn L d true c 7 p && p != 0))) := rfl
      obtain ⟨ru, hru⟩ : ∃ ru, roundIn L d true c 7 p = ru := ⟨_, rfl⟩
      rw [hru] at yu Hw
      clear hru
      have Hmod : Hid (modelB L d c rs paths p = (withB L d c p || offKB L d c p L.length || paths.any fun path => hitB (curL L d p path) (kinKB L d c rs L.length))) := rfl
      obtain ⟨b0, hb0⟩ : ∃ b0, withB L d c p = b0 := ⟨_, rfl⟩
      rw [hb0] at Hw Hmod
      clear hb0
      have lps := HG.out.pn.lt
      have HRw : Hid (∀ j, j < 7 → wr.rowIs (A + j) (arrT j) L.length (arrV L d j)) := fun j hj => (HG.out.arr j hj).of_block (hI.out.bel.block _ (HG.out.arr j hj).lt)
      have HAw : Hid (Arr wr bR (aroundB L d c)) := HG.out.ar.below hI.out.bel
      have HKw : Hid (Arr wr bK (kinKB L d c rs L.length)) := HG.out.kn.below hI.out.bel
      have HSIw : Hid (wr.rowIs bsi 27 paths.length (fun q => .slice (some ⟨bs q, 0, none⟩) (paths.getD q []).length (paths.getD q []).length)) := HG.out.si.of_block (hI.out.bel.block _ HG.out.si.lt)
      have HSJw : Hid (∀ q, q < paths.length → wr.rowIs (bs q) 3 (paths.getD q []).length (fun j => .int .i64 ((paths.getD q []).getD j 0 : Nat))) := fun q hq => (HG.out.sj q hq).of_block (hI.out.bel.block _ (HG.out.sj q hq).lt)
      have HGd : Hid (∀ i, i < L.length → (L.getD i r0).ok) := HG.out.good
      have HP3 : Hid (∀ q, q < paths.length → (paths.getD q []).length ≤ 3) := HG.out.p3
      have HP5 : Hid (∀ q j, q < paths.length → j < (paths.getD q []).length → (paths.getD q []).getD j 0 < 5) := HG.out.p5
      go_upto_region 85 with fail
      go_cut [54] (fun v wc => v = .bool b0 ∧ wc = wr)
      case first =>
        by_cases hkc : p = c
        · subst hkc
          obtain rfl : b0 = true := by rw [Hw.out]; simp
          go_wp2_with fail
          go_meet
          case rel => exact ⟨rfl, rfl⟩
        · have hkc' : ((p : Int) == (c : Int)) = false := by simp; omega
          cases ru
          · obtain rfl : b0 = false := by rw [Hw.out]; simp [hkc]
            go_wp2_with fail
            go_meet
            case rel => exact ⟨rfl, rfl⟩
          · by_cases hk0 : p = 0
            · subst hk0
              have hc1 : ((0 : Int) == (c : Int)) = false := by simp; omega
              have hc2 : ¬ (0 : Int) = (c : Int) := by omega
              obtain rfl : b0 = false := by rw [Hw.out]; simp [hkc]
              go_wp2_with fail
              go_meet
              case rel => exact ⟨rfl, rfl⟩
            · have hk0' : ((p : Int) == 0) = false := by simp; omega
              have hk1 : ((p : Int) != 0) = true := by simp; omega
              obtain rfl : b0 = true := by rw [Hw.out]; simp [hk0]
              go_wp2_with fail
              go_meet
              case rel => exact ⟨rfl, rfl⟩
      case rest =>
        obtain ⟨rfl, rfl⟩ := hcut
        clear y0 yu Hw
        go_upto_block 16 with fail
        refine loop9 wc A bR c p b0 L d _ _ _ _ _ _ _ _ _ _ _ _ _ _ _ _ _ _ _ _ _ _ _ _ _ _ _ _ _ _ _ _ _ _ _ _ _ _ _ _ _ _ _ _ _ _ _ _ _ _ _ _ _ _ _ _ _ _ _ _ _ _ _ _ _ _ _ _ _ _ _ _ _ _ _ _ _ _ _ _ _ _ _ _ _ _ _ _ _ _ _ _ _ _ _ _ _ _ _ _ _ _ _ _ _ _ _ _ _ _ _ _ _ _ _ _ _ _ _ _ _ _ _ _ _ _ _ _ _ _ _ _ _ _ _ _ _ _ _ _ _ _ _ _ _ _ _ _ _ _ _ _ _ _ _ _ _ _ _ _ _ _ _ _ _ _ _ _ _ _ _ _ _ _ _ _ _ _ _ _ _ _ _ _ _ _ _ _ _ _ _ _ _ _ _ _ _ _ _ _ _ _ _ _ _ _ _ _ _ _ _ _ _ _ _ _ _ _ _ _ _ _ _ _ _ _ _ _ _ _ _ _ _ _ _ _ _ _ _ _ _ _ _ _ _ _ _ _ _ _ _ _ _ _ _ _ _ _ _ _ _ _ _ _ _ _ _ _ _ _ _ _ _ _ _ _ _ _ _ _ _ _ _ _ _ _ _ _ _ _ _ _ _ _ _ _ _ _ _ _ _ _ _ _ _ _ _ _ _ _ _ _ _ _ _ _ _ _ _ _ _ _ _ _ _ _ _ _ _ _ _ _ _ _ _ _ _ _ _ _ _ _ _ _ _ _ _ _ _ _ _ _ _ _ _ _ _ _ _ _ _ _ _ _ _ _ _ _ _ _ _ _ _ _ _ _ _ _ _ _ _ _ _ _ _ _ _ _ _ _ _ _ _ _ _ _ _ _ _ _ _ _ _ _ _ _ _ _ _ _ _ _ _ _ _ _ _ _ _ _ _ _ _ _ _ _ _ _ _ _ _ _ _ _ _ _ _ _ _ _ _ _ _ _ _ _ _ _ _ _ _ _ _ _ _ _ _ _ _ _ _ _ _ _ _ _ _ _ _ _ _ _ _ _ _ _ _ _ _ _ _ _ _ _ _ _ _ _ _ _ _ _ _ _ _ _ _ _ _ _ _ _ _ _ _ _ _ _ _ _ _ _ _ _ _ _ _ _ _ _ _ _ _ _ _ _ _ _ _ _ _ _ _ _ _ _ _ _ _ _ _ _ _ _ _ _ _ _ _ _ _ _ _ _ _ _ _ _ _ _ _ _ _ _ _ _ _ _ _ _ _ _ hL hp7 HGd HRw HAw ?_
        intro x54 x55 x445 x446 x447 x448 x449 x450 x451 x452 x453 x454 x455 x456 x457 x458 x459 x460 x461 x462 x463 x464 x465 x466 x467 x468 x469 x470 x471 x472 x473 x474 x475 x476 x477 x478 x479 x480 w2 e54 ew
        subst ew
        obtain ⟨b1, hb1⟩ : ∃ b1, (b0 || offKB L d c p L.length) = b1 := ⟨_, rfl⟩
        rw [hb1] at e54 Hmod
        clear hb1
        subst e54
        go_upto_block 18 with fail
        refine loop10 w2 A bsi bK p b1 (kinKB L d c rs L.length) bs paths L d _ _ _ _ _ _ _ _ _ _ _ _ _ _ _ _ _ _ _ _ _ _ _ _ _ _ _ _ _ _ _ _ _ _ _ _ _ _ _ _ _ _ _ _ _ _ _ _ _ _ _ _ _ _ _ _ _ _ _ _ _ _ _ _ _ _ _ _ _ _ _ _ _ _ _ _ _ _ _ _ _ _ _ _ _ _ _ _ _ _ _ _ _ _ _ _ _ _ _ _ _ _ _ _ _ _ _ _ _ _ _ _ _ _ _ _ _ _ _ _ _ _ _ _ _ _ _ _ _ _ _ _ _ _ _ _ _ _ _ _ _ _ _ _ _ _ _ _ _ _ _ _ _ _ _ _ _ _ _ _ _ _ _ _ _ _ _ _ _ _ _ _ _ _ _ _ _ _ _ _ _ _ _ _ _ _ _ _ _ _ _ _ _ _ _ _ _ _ _ _ _ _ _ _ _ _ _ _ _ _ _ _ _ _ _ _ _ _ _ _ _ _ _ _ _ _ _ _ _ _ _ _ _ _ _ _ _ _ _ _ _ _ _ _ _ _ _ _ _ _ _ _ _ _ _ _ _ _ _ _ _ _ _ _ _ _ _ _ _ _ _ _ _ _ _ _ _ _ _ _ _ _ _ _ _ _ _ _ _ _ _ _ _ _ _ _ _ _ _ _ _ _ _ _ _ _ _ _ _ _ _ _ _ _ _ _ _ _ _ _ _ _ _ _ _ _ _ _ _ _ _ _ _ _ _ _ _ _ _ _ _ _ _ _ _ _ _ _ _ _ _ _ _ _ _ _ _ _ _ _ _ _ _ _ _ _ _ _ _ _ _ _ _ _ _ _ _ _ _ _ _ _ _ _ _ _ _ _ _ _ _ _ _ _ _ _ _ _ _ _ _ _ _ _ _ _ _ _ _ _ _ _ _ _ _ _ _ _ _ _ _ _ _ _ _ _ _ _ _ _ _ _ _ _ _ _ _ _ _ _ _ _ _ _ _ _ _ _ _ _ _ _ _ _ _ _ _ _ _ _ _ _ _ _ _ _ _ _ _ _ _ _ _ _ _ _ _ _ _ _ _ _ _ _ _ _ _ _ _ _ _ _ _ _ _ _ _ _ _ _ _ _ _ _ _ _ _ _ _ _ _ _ _ _ _ _ _ _ _ _ _ _ _ _ _ _ _ _ _ _ _ _ _ _ _ _ _ _ _ _ _ _ _ _ _ _ _ _ _ _ _ _ _ _ _ _ _ _ _ _ _ _ _ _ _ _ _ _ _ _ hL hp7 hfl HGd HRw HP3 HP5 HSIw HSJw HKw ?_
        intro x54 x56 x57 x59 x60 x61 x62 x481 x482 x483 x484 x485 x486 x487 x488 x489 x490 x491 x492 x493 x494 x495 x496 x497 x498 x499 x500 x501 x502 x503 x504 x505 x506 x507 x508 x509 x510 x511 x512 x513 x514 x515 x516 x517 x518 x519 x520 x521 x522 x523 x524 x525 x526 x527 x528 x529 x530 x531 x532 x533 x534 x535 x536 x537 x538 x539 x540 x541 x542 x543 x544 x545 x546 x547 x548 x549 x550 x551 x552 x553 x554 x555 x556 x557 x558 x559 x560 x561 x562 x563 x564 x565 x566 x567 x568 x569 w3 e54 hb3
        have HI3 : Hid (GI W1 ((ps.take k).filter (modelB L d c rs paths)) u51 w3) := hI.out.below hb3.out
        obtain ⟨b2, hb2⟩ : ∃ b2, (b1 || paths.any fun path => hitB (curL L d p path) (kinKB L d c rs L.length)) = b2 := ⟨_, rfl⟩
        rw [hb2] at e54 Hmod
        clear hb2 hb3 hI HRw HAw HKw HSIw HSJw
        subst e54
        cases b2
        · have HI4 : Hid (GI W1 ((ps.take (k + 1)).filter (modelB L d c rs paths)) u51 w3) := by
            show GI ..
            rw [Hfs.out, Hmod.out]
            simpa using HI3.out
          go_wp2_with fail
          go_roundw
          case rel => first | exact ⟨k + 1, by omega, by go_num, HI4⟩ | ((repeat apply Exists.intro); refine ⟨?_, rfl⟩; exact ⟨k + 1, by omega, by go_num, HI4⟩)
          case measure => simp [intOf]; omega
        · have y1 : w3.cell? ⟨bps, k, none⟩ = some (.string (nameOf p)) := (HI3.out.bel.cell (p := ⟨bps, k, none⟩) lps).trans Y1.out
          obtain ⟨n2, hn2⟩ : ∃ n2, nameOf p = n2 := ⟨_, rfl⟩
          have Hn2 : Hid (nameOf p = n2) := hn2
          rw [hn2] at y1
          clear hn2
          go_wp2_with (at_builtin; refine wpList_append_own_at _ rfl _ _ 47 rfl W1.heap.size 9 i0 _ 1 16 Ybaf.underlying47 hi0 hz0 hz1 hz2 rfl (by decide) u51 ((ps.take k).filter (modelB L d c rs paths)).length (nmS ((ps.take k).filter (modelB L d c rs paths))) rfl (HI3.out.own.alloc _) ⟨w3.heap.size, 0, none⟩ 1 1 [.string n2] rfl rfl (World.news_of_block (cs := #[.string n2]) (t := 9) (fr := (0, 0)) (heap_alloc_new w3 _)) ?c2 ?c3 ?c4 ?c5 ?_)
          case c2 => intro u hu; rw [List.mem_singleton] at hu; subst hu; rfl
          case c3 => unfold maxLen; omega
          case c4 => omega
          case c5 => have := HI3.out.bel.size; simp; omega
          intro v' w4 hown' hgrow' _ hat'
          have HI4 : Hid (GI W1 ((ps.take (k + 1)).filter (modelB L d c rs paths)) v' w4) := by
            show GI ..
            rw [Hfs.out, Hmod.out]
            simp only [if_true]
            refine (HI3.out.below ((Below.refl _ w3).alloc (Nat.le_refl _) _)).append (q := p) ?_ hgrow'
            rw [Hn2.out]
            exact hown'
          clear hown' hgrow' hat'
          go_wp2_with fail
          go_roundw
          case rel => first | exact ⟨k + 1, by omega, by go_num, HI4⟩ | ((repeat apply Exists.intro); refine ⟨?_, rfl⟩; exact ⟨k + 1, by omega, by go_num, HI4⟩)
          case measure => simp [intOf]; omega
    · obtain rfl : k = ps.length := by omega
      rw [List.take_length] at hI
      have hfl2 : (ps.filter (modelB L d c rs paths)).length ≤ 1024 := Nat.le_trans (List.length_filter_le _ _) hpl
      go_wp2_with fail
      refine (equal_any wr _ _ (ps.filter (modelB L d c rs paths)) (HG.out.got.keep (fun b _ hb => ⟨hI.out.bel.block b hb, trivial⟩) hI.out.bel.size) hI.out.strs (by omega)).mono ?_
      rintro en w2 ⟨rfl, hb⟩
      have HB2 : Hid (Below w0.heap.size w0 w2) := (HG.out.bel.trans (hI.out.bel.mono HG.out.bel.size)).trans (hb.mono (Nat.le_trans HG.out.bel.size hI.out.bel.size))
      clear hb
      go_wp2_with fail
      exact bodyPost_ret (by simp [results, Ybaf.results3, go_sem]; try rfl) rfl ⟨rfl, HB2.out⟩

end Go.Proofs.YbulkcfwsFmt
