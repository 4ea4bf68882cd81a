import Derived.Test.YbulkcfwsFmtLoop4
namespace Go.Proofs.YbulkcfwsFmt
open Go.RowKit

/-- The first k paths are read. -/
structure PS (W0 W : World) (bcf bsi np k : Nat) (ln : Nat → Nat) (z : Nat → Nat → Nat) (bc bs : Nat → Nat) : Prop where
  bel : Below W0.heap.size W0 W
  cf : W.rowIs bcf 50 np (fun q => if q < k then .slice (some ⟨bc q, 0, none⟩) (min (ln q) 3) (min (ln q) 3) else .slice none 0 0)
  si : W.rowIs bsi 27 np (fun q => if q < k then .slice (some ⟨bs q, 0, none⟩) (min (ln q) 3) (min (ln q) 3) else .slice none 0 0)
  rc : ∀ q, q < k → bsi < bc q ∧ W.rowIs (bc q) 51 (min (ln q) 3) (fun j => .string (stepOf (z q j % 5)))
  rs : ∀ q, q < k → bsi < bs q ∧ W.rowIs (bs q) 3 (min (ln q) 3) (fun j => .int .i64 (z q j % 5 : Nat))

theorem info51 : (Ybaf.prog.info? 51).map (fun i => (i.zero, i.size, i.bytes)) = some (some (Value.string ByteArray.empty), 1, 16) := by kernel_rfl

/-- The world in which path k's two rows are made. -/
def mkP (W : World) (bcf bsi k m : Nat) : World :=
  (((W.setCell ⟨bcf, k, none⟩ (.slice (some ⟨W.heap.size, 0, none⟩) m m)).setCell ⟨bsi, k, none⟩ (.slice (some ⟨W.heap.size + 1, 0, none⟩) m m)).alloc (.cells (madeCells #[Value.string ByteArray.empty] m) 51)).alloc (.cells (madeCells #[Value.int .i64 0] m) 3)

theorem PS.made {W0 W : World} {bcf bsi np k : Nat} {ln : Nat → Nat} {z : Nat → Nat → Nat} {bc bs : Nat → Nat} (h : PS W0 W bcf bsi np k ln z bc bs) (h1 : W0.heap.size ≤ bcf) (h2 : bcf < bsi) (hk : k < np) {m : Nat} (hm : min (ln k) 3 = m) :
    Below W0.heap.size W0 (mkP W bcf bsi k m) ∧ (mkP W bcf bsi k m).cell? ⟨bcf, k, none⟩ = some (.slice (some ⟨W.heap.size, 0, none⟩) m m) ∧ (mkP W bcf bsi k m).cell? ⟨bsi, k, none⟩ = some (.slice (some ⟨W.heap.size + 1, 0, none⟩) m m) ∧
    (mkP W bcf bsi k m).rowIs W.heap.size 51 m (fun _ => .string ByteArray.empty) ∧ (mkP W bcf bsi k m).rowIs (W.heap.size + 1) 3 m (fun _ => .int .i64 0) ∧
    ∀ w', Below W.heap.size (mkP W bcf bsi k m) w' → w'.rowIs W.heap.size 51 m (fun j => .string (stepOf (z k j % 5))) → w'.rowIs (W.heap.size + 1) 3 m (fun j => .int .i64 (z k j % 5 : Nat)) →
      PS W0 w' bcf bsi np (k + 1) ln z (fun q => if q = k then W.heap.size else bc q) (fun q => if q = k then W.heap.size + 1 else bs q) := by
  have l1 := h.cf.lt
  have l2 := h.si.lt
  have hx : ((W.setCell ⟨bcf, k, none⟩ (.slice (some ⟨W.heap.size, 0, none⟩) m m)).setCell ⟨bsi, k, none⟩ (.slice (some ⟨W.heap.size + 1, 0, none⟩) m m)).heap.size = W.heap.size := by simp [World.setCell]
  have hx2 : (((W.setCell ⟨bcf, k, none⟩ (.slice (some ⟨W.heap.size, 0, none⟩) m m)).setCell ⟨bsi, k, none⟩ (.slice (some ⟨W.heap.size + 1, 0, none⟩) m m)).alloc (.cells (madeCells #[Value.string ByteArray.empty] m) 51)).heap.size = W.heap.size + 1 := by simp [World.setCell]
  have hb1 : Below W0.heap.size W0 (mkP W bcf bsi k m) := (((h.bel.setCell (by show W0.heap.size ≤ bcf; omega) _).setCell (by show W0.heap.size ≤ bsi; omega) _).alloc (by rw [hx]; exact h.bel.size) _).alloc (by rw [hx2]; have := h.bel.size; omega) _
  have hcf : (mkP W bcf bsi k m).rowIs bcf 50 np (fun q => if q = k then .slice (some ⟨W.heap.size, 0, none⟩) m m else (if q < k then .slice (some ⟨bc q, 0, none⟩) (min (ln q) 3) (min (ln q) 3) else .slice none 0 0)) := (((h.cf.set k _).setOther (by show bcf ≠ bsi; omega) _).alloc _).alloc _
  have hsi : (mkP W bcf bsi k m).rowIs bsi 27 np (fun q => if q = k then .slice (some ⟨W.heap.size + 1, 0, none⟩) m m else (if q < k then .slice (some ⟨bs q, 0, none⟩) (min (ln q) 3) (min (ln q) 3) else .slice none 0 0)) := (((h.si.setOther (by show bsi ≠ bcf; omega) _).set k _).alloc _).alloc _
  have hrc : (mkP W bcf bsi k m).rowIs W.heap.size 51 m (fun _ => .string ByteArray.empty) := by
    have h3 := World.rowIs_made ((W.setCell ⟨bcf, k, none⟩ (.slice (some ⟨W.heap.size, 0, none⟩) m m)).setCell ⟨bsi, k, none⟩ (.slice (some ⟨W.heap.size + 1, 0, none⟩) m m)) (.string ByteArray.empty) m 51
    rw [hx] at h3
    exact h3.alloc _
  have hrs : (mkP W bcf bsi k m).rowIs (W.heap.size + 1) 3 m (fun _ => .int .i64 0) := by
    have h3 := World.rowIs_made (((W.setCell ⟨bcf, k, none⟩ (.slice (some ⟨W.heap.size, 0, none⟩) m m)).setCell ⟨bsi, k, none⟩ (.slice (some ⟨W.heap.size + 1, 0, none⟩) m m)).alloc (.cells (madeCells #[Value.string ByteArray.empty] m) 51)) (.int .i64 0) m 3
    rw [hx2] at h3
    exact h3
  refine ⟨hb1, ?_, ?_, hrc, hrs, fun w' hb hc hs => ⟨hb1.trans (hb.mono h.bel.size), ?_, ?_, fun q hq => ?_, fun q hq => ?_⟩⟩
  · rw [hcf.cell hk, if_pos rfl]
  · rw [hsi.cell hk, if_pos rfl]
  · refine (hcf.of_block (hb.block _ l1)).congr fun q _ => ?_
    by_cases e : q = k
    · subst e
      simp only [if_true, Nat.lt_succ_self, hm]
    · simp only [if_neg e]
      by_cases e2 : q < k
      · rw [if_pos e2, if_pos (by omega)]
      · rw [if_neg e2, if_neg (by omega)]
  · refine (hsi.of_block (hb.block _ l2)).congr fun q _ => ?_
    by_cases e : q = k
    · subst e
      simp only [if_true, Nat.lt_succ_self, hm]
    · simp only [if_neg e]
      by_cases e2 : q < k
      · rw [if_pos e2, if_pos (by omega)]
      · rw [if_neg e2, if_neg (by omega)]
  · by_cases e : q = k
    · subst e
      simp only [if_true, hm]
      exact ⟨l2, hc⟩
    · simp only [if_neg e]
      obtain ⟨g1, g2⟩ := h.rc q (by omega)
      refine ⟨g1, ?_⟩
      have g3 : (mkP W bcf bsi k m).rowIs (bc q) 51 (min (ln q) 3) (fun j => .string (stepOf (z q j % 5))) := (((g2.setOther (by show bc q ≠ bcf; omega) _).setOther (by show bc q ≠ bsi; omega) _).alloc _).alloc _
      exact g3.of_block (hb.block _ g2.lt)
  · by_cases e : q = k
    · subst e
      simp only [if_true, hm]
      exact ⟨by omega, hs⟩
    · simp only [if_neg e]
      obtain ⟨g1, g2⟩ := h.rs q (by omega)
      refine ⟨g1, ?_⟩
      have g3 : (mkP W bcf bsi k m).rowIs (bs q) 3 (min (ln q) 3) (fun j => .int .i64 (z q j % 5 : Nat)) := (((g2.setOther (by show bs q ≠ bcf; omega) _).setOther (by show bs q ≠ bsi; omega) _).alloc _).alloc _
      exact g3.of_block (hb.block _ g2.lt)

set_option maxHeartbeats 20000000 in
set_option maxRecDepth 100000 in
theorem loop3 (W0 W : World) (vp : Value) (bcf bsi np np0 : Nat) (pv : Nat → Value) (ln : Nat → Nat) (z : Nat → Nat → Nat) (K : Act → World → Prop) (Q' : Exit → Act → World → Prop) (u0 u1 u2 u3 u5 u6 u7 u8 u9 u10 u11 u12 u13 u14 u15 u16 u17 u18 u19 u20 u21 u22 u23 u24 u25 u26 u27 u28 u29 u30 u31 u32 u37 u38 u39 u40 u41 u42 u43 u44 u45 u46 u47 u48 u49 u50 u51 u52 u53 u54 u55 u56 u57 u58 u59 u60 u61 u62 u63 u64 u65 u66 u67 u68 u69 u70 u71 u72 u73 u74 u75 u76 u77 u78 u79 u80 u81 u82 u83 u84 u85 u86 u87 u88 u89 u90 u91 u92 u93 u94 u95 u96 u97 u98 u99 u100 u101 u102 u103 u104 u105 u106 u107 u108 u109 u110 u111 u112 u113 u114 u115 u116 u117 u118 u119 u120 u121 u122 u123 u124 u125 u126 u127 u128 u129 u130 u131 u132 u133 u134 u135 u136 u137 u138 u139 u140 u141 u142 u143 u144 u145 u146 u147 u148 u149 u150 u151 u152 u153 u154 u155 u156 u157 u158 u159 u160 u161 u162 u163 u164 u165 u166 u167 u168 u169 u170 u171 u172 u173 u174 u175 u176 u177 u178 u179 u180 u181 u182 u183 u184 u185 u186 u187 u188 u189 u190 u191 u192 u193 u194 u195 u196 u197 u198 u199 u200 u201 u202 u203 u204 u205 u206 u207 u208 u209 u210 u211 u212 u213 u214 u215 u216 u217 u218 u219 u220 u221 u222 u223 u224 u225 u226 u227 u228 u229 u230 u231 u232 u233 u234 u235 u236 u237 u238 u239 u240 u241 u242 u243 u244 u245 u246 u247 u248 u249 u250 u251 u252 u253 u254 u255 u256 u257 u258 u259 u260 u261 u262 u263 u264 u265 u266 u267 u268 u269 u270 u271 u272 u273 u274 u275 u276 u277 u278 u279 u280 u281 u282 u283 u284 u285 u286 u287 u288 u289 u290 u291 u292 u293 u294 u295 u296 u297 u298 u299 u300 u301 u302 u303 u304 u305 u306 u307 u308 u309 u310 u311 u312 u313 u314 u315 u316 u317 u318 u319 u320 u321 u322 u323 u324 u325 u326 u327 u328 u329 u330 u331 u332 u333 u334 u335 u336 u337 u338 u339 u340 u341 u342 u343 u344 u345 u346 u347 u348 u349 u350 u351 u352 u353 u354 u355 u356 u357 u358 u359 u360 u361 u362 u363 u364 u365 u366 u367 u368 u369 u370 u371 u372 u373 u374 u375 u376 u377 u378 u379 u380 u381 u382 u383 u384 u385 u386 u387 u388 u389 u390 u391 u392 u393 u394 u395 u396 u397 u398 u399 u400 u401 u402 u403 u404 u405 u406 u407 u408 u409 u410 u411 u412 u413 u414 u415 u416 u417 u418 u419 u420 u421 u422 u423 u424 u425 u426 u427 u428 u429 u430 u431 u432 u433 u434 u435 u436 u437 u438 u439 u440 u441 u442 u443 u444 u445 u446 u447 u448 u449 u450 u451 u452 u453 u454 u455 u456 u457 u458 u459 u460 u461 u462 u463 u464 u465 u466 u467 u468 u469 u470 u471 u472 u473 u474 u475 u476 u477 u478 u479 u480 u481 u482 u483 u484 u485 u486 u487 u488 u489 u490 u491 u492 u493 u494 u495 u496 u497 u498 u499 u500 u501 u502 u503 u504 u505 u506 u507 u508 u509 u510 u511 u512 u513 u514 u515 u516 u517 u518 u519 u520 u521 u522 u523 u524 u525 u526 u527 u528 u529 u530 u531 u532 u533 u534 u535 u536 u537 u538 u539 u540 u541 u542 u543 u544 u545 u546 u547 u548 u549 u550 u551 u552 u553 u554 u555 u556 u557 u558 u559 u560 u561 u562 u563 u564 u565 u566 u567 u568 u569 u570 u571 u572 u573 u574 u575 u576 u577 u578 u579 u580 u581 : Value)
    (hnp : np ≤ 16) (hn0 : np ≤ np0) (h1 : W0.heap.size ≤ bcf) (h2 : bcf < bsi) (HZ : Hid (∀ q j, z q j < 256))
    (HP : Hid (Row AnyB W0 vp np0 1 (flat np0 fun q => [pv q]))) (HV : Hid (∀ q, q < np0 → Row AnyB W0 (pv q) (ln q) 1 (flat (ln q) fun j => [.int .u8 (z q j : Nat)])))
    (HS : Hid (PS W0 W bcf bsi np 0 ln z (fun _ => 0) (fun _ => 0)))
    (hK : ∀ (x36 x37 x38 x250 x251 x252 x253 x254 x255 x256 x257 x258 x259 x260 x261 x262 x263 x264 x265 x266 x267 x268 x269 x270 x271 x272 x273 x274 x275 x276 x277 x278 x279 x280 x281 x282 x283 x284 x285 x286 x287 x288 x289 x290 x291 x292 x293 x294 x295 x296 x297 x298 x299 x300 x301 x302 x303 x304 x305 : Value) (w' : World), Hid (∃ bc bs, PS W0 w' bcf bsi np np ln z bc bs) → K ⟨#[u0, u1, u2, u3, vp, u5, u6, u7, u8, u9, u10, u11, u12, u13, u14, u15, u16, u17, u18, u19, u20, u21, u22, u23, u24, u25, u26, u27, u28, u29, u30, u31, u32, .int .i64 (np : Nat), .slice (some ⟨bcf, 0, none⟩) np np, .slice (some ⟨bsi, 0, none⟩) np np, x36, x37, x38, u39, u40, u41, u42, u43, u44, u45, u46, u47, u48, u49, u50, u51, u52, u53, u54, u55, u56, u57, u58, u59, u60, u61, u62, u63, u64, u65, u66, u67, u68, u69, u70, u71, u72, u73, u74, u75, u76, u77, u78, u79, u80, u81, u82, u83, u84, u85, u86, u87, u88, u89, u90, u91, u92, u93, u94, u95, u96, u97, u98, u99, u100, u101, u102, u103, u104, u105, u106, u107, u108, u109, u110, u111, u112, u113, u114, u115, u116, u117, u118, u119, u120, u121, u122, u123, u124, u125, u126, u127, u128, u129, u130, u131, u132, u133, u134, u135, u136, u137, u138, u139, u140, u141, u142, u143, u144, u145, u146, u147, u148, u149, u150, u151, u152, u153, u154, u155, u156, u157, u158, u159, u160, u161, u162, u163, u164, u165, u166, u167, u168, u169, u170, u171, u172, u173, u174, u175, u176, u177, u178, u179, u180, u181, u182, u183, u184, u185, u186, u187, u188, u189, u190, u191, u192, u193, u194, u195, u196, u197, u198, u199, u200, u201, u202, u203, u204, u205, u206, u207, u208, u209, u210, u211, u212, u213, u214, u215, u216, u217, u218, u219, u220, u221, u222, u223, u224, u225, u226, u227, u228, u229, u230, u231, u232, u233, u234, u235, u236, u237, u238, u239, u240, u241, u242, u243, u244, u245, u246, u247, u248, u249, x250, x251, x252, x253, x254, x255, x256, x257, x258, x259, x260, x261, x262, x263, x264, x265, x266, x267, x268, x269, x270, x271, x272, x273, x274, x275, x276, x277, x278, x279, x280, x281, x282, x283, x284, x285, x286, x287, x288, x289, x290, x291, x292, x293, x294, x295, x296, x297, x298, x299, x300, x301, x302, x303, x304, x305, u306, u307, u308, u309, u310, u311, u312, u313, u314, u315, u316, u317, u318, u319, u320, u321, u322, u323, u324, u325, u326, u327, u328, u329, u330, u331, u332, u333, u334, u335, u336, u337, u338, u339, u340, u341, u342, u343, u344, u345, u346, u347, u348, u349, u350, u351, u352, u353, u354, u355, u356, u357, u358, u359, u360, u361, u362, u363, u364, u365, u366, u367, u368, u369, u370, u371, u372, u373, u374, u375, u376, u377, u378, u379, u380, u381, u382, u383, u384, u385, u386, u387, u388, u389, u390, u391, u392, u393, u394, u395, u396, u397, u398, u399, u400, u401, u402, u403, u404, u405, u406, u407, u408, u409, u410, u411, u412, u413, u414, u415, u416, u417, u418, u419, u420, u421, u422, u423, u424, u425, u426, u427, u428, u429, u430, u431, u432, u433, u434, u435, u436, u437, u438, u439, u440, u441, u442, u443, u444, u445, u446, u447, u448, u449, u450, u451, u452, u453, u454, u455, u456, u457, u458, u459, u460, u461, u462, u463, u464, u465, u466, u467, u468, u469, u470, u471, u472, u473, u474, u475, u476, u477, u478, u479, u480, u481, u482, u483, u484, u485, u486, u487, u488, u489, u490, u491, u492, u493, u494, u495, u496, u497, u498, u499, u500, u501, u502, u503, u504, u505, u506, u507, u508, u509, u510, u511, u512, u513, u514, u515, u516, u517, u518, u519, u520, u521, u522, u523, u524, u525, u526, u527, u528, u529, u530, u531, u532, u533, u534, u535, u536, u537, u538, u539, u540, u541, u542, u543, u544, u545, u546, u547, u548, u549, u550, u551, u552, u553, u554, u555, u556, u557, u558, u559, u560, u561, u562, u563, u564, u565, u566, u567, u568, u569, u570, u571, u572, u573, u574, u575, u576, u577, u578, u579, u580, u581], []⟩ w') :
    Code.wp Ybaf.prog ((blockAt 4 (Ybaf.f3.body.getD .skip)).getD .skip) (Exit.then K Q')
      ⟨#[u0, u1, u2, u3, vp, u5, u6, u7, u8, u9, u10, u11, u12, u13, u14, u15, u16, u17, u18, u19, u20, u21, u22, u23, u24, u25, u26, u27, u28, u29, u30, u31, u32, .int .i64 (np : Nat), .slice (some ⟨bcf, 0, none⟩) np np, .slice (some ⟨bsi, 0, none⟩) np np, .int .i64 0, u37, u38, u39, u40, u41, u42, u43, u44, u45, u46, u47, u48, u49, u50, u51, u52, u53, u54, u55, u56, u57, u58, u59, u60, u61, u62, u63, u64, u65, u66, u67, u68, u69, u70, u71, u72, u73, u74, u75, u76, u77, u78, u79, u80, u81, u82, u83, u84, u85, u86, u87, u88, u89, u90, u91, u92, u93, u94, u95, u96, u97, u98, u99, u100, u101, u102, u103, u104, u105, u106, u107, u108, u109, u110, u111, u112, u113, u114, u115, u116, u117, u118, u119, u120, u121, u122, u123, u124, u125, u126, u127, u128, u129, u130, u131, u132, u133, u134, u135, u136, u137, u138, u139, u140, u141, u142, u143, u144, u145, u146, u147, u148, u149, u150, u151, u152, u153, u154, u155, u156, u157, u158, u159, u160, u161, u162, u163, u164, u165, u166, u167, u168, u169, u170, u171, u172, u173, u174, u175, u176, u177, u178, u179, u180, u181, u182, u183, u184, u185, u186, u187, u188, u189, u190, u191, u192, u193, u194, u195, u196, u197, u198, u199, u200, u201, u202, u203, u204, u205, u206, u207, u208, u209, u210, u211, u212, u213, u214, u215, u216, u217, u218, u219, u220, u221, u222, u223, u224, u225, u226, u227, u228, u229, u230, u231, u232, u233, u234, u235, u236, u237, u238, u239, u240, u241, u242, u243, u244, u245, u246, u247, u248, u249, u250, u251, u252, u253, u254, u255, u256, u257, u258, u259, u260, u261, u262, u263, u264, u265, u266, u267, u268, u269, u270, u271, u272, u273, u274, u275, u276, u277, u278, u279, u280, u281, u282, u283, u284, u285, u286, u287, u288, u289, u290, u291, u292, u293, u294, u295, u296, u297, u298, u299, u300, u301, u302, u303, u304, u305, u306, u307, u308, u309, u310, u311, u312, u313, u314, u315, u316, u317, u318, u319, u320, u321, u322, u323, u324, u325, u326, u327, u328, u329, u330, u331, u332, u333, u334, u335, u336, u337, u338, u339, u340, u341, u342, u343, u344, u345, u346, u347, u348, u349, u350, u351, u352, u353, u354, u355, u356, u357, u358, u359, u360, u361, u362, u363, u364, u365, u366, u367, u368, u369, u370, u371, u372, u373, u374, u375, u376, u377, u378, u379, u380, u381, u382, u383, u384, u385, u386, u387, u388, u389, u390, u391, u392, u393, u394, u395, u396, u397, u398, u399, u400, u401, u402, u403, u404, u405, u406, u407, u408, u409, u410, u411, u412, u413, u414, u415, u416, u417, u418, u419, u420, u421, u422, u423, u424, u425, u426, u427, u428, u429, u430, u431, u432, u433, u434, u435, u436, u437, u438, u439, u440, u441, u442, u443, u444, u445, u446, u447, u448, u449, u450, u451, u452, u453, u454, u455, u456, u457, u458, u459, u460, u461, u462, u463, u464, u465, u466, u467, u468, u469, u470, u471, u472, u473, u474, u475, u476, u477, u478, u479, u480, u481, u482, u483, u484, u485, u486, u487, u488, u489, u490, u491, u492, u493, u494, u495, u496, u497, u498, u499, u500, u501, u502, u503, u504, u505, u506, u507, u508, u509, u510, u511, u512, u513, u514, u515, u516, u517, u518, u519, u520, u521, u522, u523, u524, u525, u526, u527, u528, u529, u530, u531, u532, u533, u534, u535, u536, u537, u538, u539, u540, u541, u542, u543, u544, u545, u546, u547, u548, u549, u550, u551, u552, u553, u554, u555, u556, u557, u558, u559, u560, u561, u562, u563, u564, u565, u566, u567, u568, u569, u570, u571, u572, u573, u574, u575, u576, u577, u578, u579, u580, u581], []⟩ W := by
  let Qx : Exit → Act → World → Prop := bodyPost Ybaf.prog Ybaf.f3 fun _ _ => True
  have HK : Hid (∀ (x36 x37 x38 x250 x251 x252 x253 x254 x255 x256 x257 x258 x259 x260 x261 x262 x263 x264 x265 x266 x267 x268 x269 x270 x271 x272 x273 x274 x275 x276 x277 x278 x279 x280 x281 x282 x283 x284 x285 x286 x287 x288 x289 x290 x291 x292 x293 x294 x295 x296 x297 x298 x299 x300 x301 x302 x303 x304 x305 : Value) (w' : World), Hid (∃ bc bs, PS W0 w' bcf bsi np np ln z bc bs) → K ⟨#[u0, u1, u2, u3, vp, u5, u6, u7, u8, u9, u10, u11, u12, u13, u14, u15, u16, u17, u18, u19, u20, u21, u22, u23, u24, u25, u26, u27, u28, u29, u30, u31, u32, .int .i64 (np : Nat), .slice (some ⟨bcf, 0, none⟩) np np, .slice (some ⟨bsi, 0, none⟩) np np, x36, x37, x38, u39, u40, u41, u42, u43, u44, u45, u46, u47, u48, u49, u50, u51, u52, u53, u54, u55, u56, u57, u58, u59, u60, u61, u62, u63, u64, u65, u66, u67, u68, u69, u70, u71, u72, u73, u74, u75, u76, u77, u78, u79, u80, u81, u82, u83, u84, u85, u86, u87, u88, u89, u90, u91, u92, u93, u94, u95, u96, u97, u98, u99, u100, u101, u102, u103, u104, u105, u106, u107, u108, u109, u110, u111, u112, u113, u114, u115, u116, u117, u118, u119, u120, u121, u122, u123, u124, u125, u126, u127, u128, u129, u130, u131, u132, u133, u134, u135, u136, u137, u138, u139, u140, u141, u142, u143, u144, u145, u146, u147, u148, u149, u150, u151, u152, u153, u154, u155, u156, u157, u158, u159, u160, u161, u162, u163, u164, u165, u166, u167, u168, u169, u170, u171, u172, u173, u174, u175, u176, u177, u178, u179, u180, u181, u182, u183, u184, u185, u186, u187, u188, u189, u190, u191, u192, u193, u194, u195, u196, u197, u198, u199, u200, u201, u202, u203, u204, u205, u206, u207, u208, u209, u210, u211, u212, u213, u214, u215, u216, u217, u218, u219, u220, u221, u222, u223, u224, u225, u226, u227, u228, u229, u230, u231, u232, u233, u234, u235, u236, u237, u238, u239, u240, u241, u242, u243, u244, u245, u246, u247, u248, u249, x250, x251, x252, x253, x254, x255, x256, x257, x258, x259, x260, x261, x262, x263, x264, x265, x266, x267, x268, x269, x270, x271, x272, x273, x274, x275, x276, x277, x278, x279, x280, x281, x282, x283, x284, x285, x286, x287, x288, x289, x290, x291, x292, x293, x294, x295, x296, x297, x298, x299, x300, x301, x302, x303, x304, x305, u306, u307, u308, u309, u310, u311, u312, u313, u314, u315, u316, u317, u318, u319, u320, u321, u322, u323, u324, u325, u326, u327, u328, u329, u330, u331, u332, u333, u334, u335, u336, u337, u338, u339, u340, u341, u342, u343, u344, u345, u346, u347, u348, u349, u350, u351, u352, u353, u354, u355, u356, u357, u358, u359, u360, u361, u362, u363, u364, u365, u366, u367, u368, u369, u370, u371, u372, u373, u374, u375, u376, u377, u378, u379, u380, u381, u382, u383, u384, u385, u386, u387, u388, u389, u390, u391, u392, u393, u394, u395, u396, u397, u398, u399, u400, u401, u402, u403, u404, u405, u406, u407, u408, u409, u410, u411, u412, u413, u414, u415, u416, u417, u418, u419, u420, u421, u422, u423, u424, u425, u426, u427, u428, u429, u430, u431, u432, u433, u434, u435, u436, u437, u438, u439, u440, u441, u442, u443, u444, u445, u446, u447, u448, u449, u450, u451, u452, u453, u454, u455, u456, u457, u458, u459, u460, u461, u462, u463, u464, u465, u466, u467, u468, u469, u470, u471, u472, u473, u474, u475, u476, u477, u478, u479, u480, u481, u482, u483, u484, u485, u486, u487, u488, u489, u490, u491, u492, u493, u494, u495, u496, u497, u498, u499, u500, u501, u502, u503, u504, u505, u506, u507, u508, u509, u510, u511, u512, u513, u514, u515, u516, u517, u518, u519, u520, u521, u522, u523, u524, u525, u526, u527, u528, u529, u530, u531, u532, u533, u534, u535, u536, u537, u538, u539, u540, u541, u542, u543, u544, u545, u546, u547, u548, u549, u550, u551, u552, u553, u554, u555, u556, u557, u558, u559, u560, u561, u562, u563, u564, u565, u566, u567, u568, u569, u570, u571, u572, u573, u574, u575, u576, u577, u578, u579, u580, u581], []⟩ w') := hK
  clear hK
  conv => arg 2; whnf
  go_wp2_with fail
  go_loopw [36] (fun i wr => ∃ k : Nat, k ≤ np ∧ i = .int .i64 k ∧ Hid (∃ bc bs, PS W0 wr bcf bsi np k ln z bc bs)) (fun i _ => np - (intOf i).toNat)
  case atStart => exact ⟨0, by omega, rfl, ⟨_, _, HS.out⟩⟩
  case round =>
    clear HS
    obtain ⟨k, hk, rfl, hS⟩ := hrel
    by_cases hlt : k < np
    · obtain ⟨bc, bs, hS⟩ := hS
      have HS : Hid (PS W0 wr bcf bsi np k ln z bc bs) := hS
      clear hS
      obtain ⟨bp, op, cp, hve, -, hlp, hcp⟩ := HP.out.cell (by omega)
      have c1 : wr.cell? ⟨bp, op + k, none⟩ = some (pv k) := (HS.out.bel.cell (p := ⟨bp, op + k, none⟩) hlp).trans (hcp k _ (flat1 (by omega)))
      have C1 : Hid (W0.cell? ⟨bp, op + k, none⟩ = some (pv k)) := hcp k _ (flat1 (by omega))
      have HVk : Hid (Row AnyB W0 (pv k) (ln k) 1 (flat (ln k) fun j => [.int .u8 (z k j : Nat)])) := HV.out k (by omega)
      have HZk : Hid (∀ j, z k j < 256) := HZ.out k
      subst hve
      clear hcp
      obtain ⟨av, cv, hpv⟩ := HVk.out.form
      rw [hpv] at c1
      have hlen : 0 ≤ ln k := Nat.zero_le _
      obtain ⟨m, hm⟩ : ∃ m, min (ln k) 3 = m := ⟨_, rfl⟩
      have Hm : Hid (min (ln k) 3 = m) := hm
      have hm3 : m ≤ 3 := by omega
      have hmn : m ≤ ln k := by omega
      obtain ⟨n, hn⟩ : ∃ n, ln k = n := ⟨_, rfl⟩
      have Hn : Hid (ln k = n) := hn
      rw [hn] at c1 hm hlen hmn
      go_upto_if 261 with fail
      go_cut [37] (fun v wc => v = .int .i64 (m : Nat) ∧ wc = wr)
      case first =>
        by_cases h3 : n ≤ 3
        · obtain rfl : m = n := by omega
          go_wp2_with fail
          go_meet
          case rel => exact ⟨rfl, rfl⟩
        · obtain rfl : m = 3 := by omega
          go_wp2_with fail
          go_meet
          case rel => exact ⟨rfl, rfl⟩
      case rest =>
        obtain ⟨rfl, rfl⟩ := hcut
        obtain ⟨g1, g2, g3, g4, g5, g6⟩ := HS.out.made h1 h2 hlt Hm.out
        have G1 : Hid (Below W0.heap.size W0 (mkP wc bcf bsi k m)) := g1
        have G2 : Hid ((mkP wc bcf bsi k m).cell? ⟨bcf, k, none⟩ = some (.slice (some ⟨wc.heap.size, 0, none⟩) m m)) := g2
        have G3 : Hid ((mkP wc bcf bsi k m).cell? ⟨bsi, k, none⟩ = some (.slice (some ⟨wc.heap.size + 1, 0, none⟩) m m)) := g3
        have G4 : Hid ((mkP wc bcf bsi k m).rowIs wc.heap.size 51 m (fun _ => .string ByteArray.empty)) := g4
        have G5 : Hid ((mkP wc bcf bsi k m).rowIs (wc.heap.size + 1) 3 m (fun _ => .int .i64 0)) := g5
        have G6 : Hid (∀ w', Below wc.heap.size (mkP wc bcf bsi k m) w' → w'.rowIs wc.heap.size 51 m (fun j => .string (stepOf (z k j % 5))) → w'.rowIs (wc.heap.size + 1) 3 m (fun j => .int .i64 (z k j % 5 : Nat)) →
          PS W0 w' bcf bsi np (k + 1) ln z (fun q => if q = k then wc.heap.size else bc q) (fun q => if q = k then wc.heap.size + 1 else bs q)) := g6
        clear g1 g2 g3 g4 g5 g6 c1 hm hn hpv
        have hm1 : ∀ w, (Instr.makeSlice 50 (.int .i64 (m : Int)) (.int .i64 (m : Int))).run Ybaf.prog w = .ok (.slice (some ⟨w.heap.size, 0, none⟩) m m) (w.alloc (.cells (madeCells #[Value.string ByteArray.empty] m) 51)) := fun w => run_make_row' 50 51 _ 16 Ybaf.underlying50 info51 rfl _ _ m (by omega) (by omega) w
        have hm2 : ∀ w, (Instr.makeSlice 27 (.int .i64 (m : Int)) (.int .i64 (m : Int))).run Ybaf.prog w = .ok (.slice (some ⟨w.heap.size, 0, none⟩) m m) (w.alloc (.cells (madeCells #[Value.int .i64 0] m) 3)) := fun w => run_make_row' 27 3 _ 8 Ybaf.underlying27 info3 rfl _ _ m (by omega) (by omega) w
        have zc := HS.out.cf.cell hlt
        have gc := HS.out.cf.frozen k
        have lc := HS.out.cf.lt
        have zs := HS.out.si.cell hlt
        have gs := HS.out.si.frozen k
        have ls := HS.out.si.lt
        rw [if_neg (Nat.lt_irrefl _)] at zc zs
        have hnc : bcf ≠ bsi := by omega
        go_upto_block 6 with fail
        refine loop4 W0 (mkP wc bcf bsi k m) bp op np0 cp bcf bsi np k m wc.heap.size (wc.heap.size + 1) (ln k) (pv k) (z k) _ _ _ _ _ _ _ _ _ _ _ _ _ _ _ _ _ _ _ _ _ _ _ _ _ _ _ _ _ _ _ _ _ _ _ _ _ _ _ _ _ _ _ _ _ _ _ _ _ _ _ _ _ _ _ _ _ _ _ _ _ _ _ _ _ _ _ _ _ _ _ _ _ _ _ _ _ _ _ _ _ _ _ _ _ _ _ _ _ _ _ _ _ _ _ _ _ _ _ _ _ _ _ _ _ _ _ _ _ _ _ _ _ _ _ _ _ _ _ _ _ _ _ _ _ _ _ _ _ _ _ _ _ _ _ _ _ _ _ _ _ _ _ _ _ _ _ _ _ _ _ _ _ _ _ _ _ _ _ _ _ _ _ _ _ _ _ _ _ _ _ _ _ _ _ _ _ _ _ _ _ _ _ _ _ _ _ _ _ _ _ _ _ _ _ _ _ _ _ _ _ _ _ _ _ _ _ _ _ _ _ _ _ _ _ _ _ _ _ _ _ _ _ _ _ _ _ _ _ _ _ _ _ _ _ _ _ _ _ _ _ _ _ _ _ _ _ _ _ _ _ _ _ _ _ _ _ _ _ _ _ _ _ _ _ _ _ _ _ _ _ _ _ _ _ _ _ _ _ _ _ _ _ _ _ _ _ _ _ _ _ _ _ _ _ _ _ _ _ _ _ _ _ _ _ _ _ _ _ _ _ _ _ _ _ _ _ _ _ _ _ _ _ _ _ _ _ _ _ _ _ _ _ _ _ _ _ _ _ _ _ _ _ _ _ _ _ _ _ _ _ _ _ _ _ _ _ _ _ _ _ _ _ _ _ _ _ _ _ _ _ _ _ _ _ _ _ _ _ _ _ _ _ _ _ _ _ _ _ _ _ _ _ _ _ _ _ _ _ _ _ _ _ _ _ _ _ _ _ _ _ _ _ _ _ _ _ _ _ _ _ _ _ _ _ _ _ _ _ _ _ _ _ _ _ _ _ _ _ _ _ _ _ _ _ _ _ _ _ _ _ _ _ _ _ _ _ _ _ _ _ _ _ _ _ _ _ _ _ _ _ _ _ _ _ _ _ _ _ _ _ _ _ _ _ _ _ _ _ _ _ _ _ _ _ _ _ _ _ _ _ _ _ _ _ _ _ _ _ _ _ _ _ _ _ _ _ _ _ _ _ _ _ _ _ _ _ _ _ _ _ _ _ _ _ _ _ _ _ _ _ _ _ _ _ _ _ _ _ _ _ _ _ _ _ _ _ _ _ _ _ _ _ _ _ _ _ _ _ _ _ _ _ _ _ _ _ hlt (by omega) hm3 (by rw [Hn.out]; exact hmn) h1 h2 ls (Nat.lt_succ_self _) hlp HZk C1 HVk G1 G2 G3 G4 G5 ?_
        intro x38 x272 x273 x274 x275 x276 x277 x278 x279 x280 x281 x282 x283 x284 x285 x286 x287 x288 x289 x290 x291 x292 x293 x294 x295 x296 x297 x298 x299 x300 x301 x302 x303 x304 x305 w2 hb2 hc2 hs2
        have HS2 : Hid (∃ bc bs, PS W0 w2 bcf bsi np (k + 1) ln z bc bs) := ⟨_, _, G6.out w2 hb2.out hc2.out hs2.out⟩
        clear hm1 hm2 zc gc lc zs gs ls
        go_wp2_with fail
        go_roundw
        case rel => first | exact ⟨k + 1, by omega, by go_num, HS2⟩ | ((repeat apply Exists.intro); refine ⟨?_, rfl⟩; exact ⟨k + 1, by omega, by go_num, HS2⟩)
        case measure => simp [intOf]; omega
    · obtain rfl : k = np := by omega
      go_wp2_with fail
      exact HK.out _ _ _ _ _ _ _ _ _ _ _ _ _ _ _ _ _ _ _ _ _ _ _ _ _ _ _ _ _ _ _ _ _ _ _ _ _ _ _ _ _ _ _ _ _ _ _ _ _ _ _ _ _ _ _ _ _ _ _ wr hS

end Go.Proofs.YbulkcfwsFmt
