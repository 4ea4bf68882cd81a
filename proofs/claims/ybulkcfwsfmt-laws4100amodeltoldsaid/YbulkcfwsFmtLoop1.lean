import Derived.Test.YbulkcfwsFmtRegion28
namespace Go.Proofs.YbulkcfwsFmt
open Go.RowKit

def zCells (z : Nat → Nat) : List Value := [.int .u8 (z 0 : Nat), .int .u8 (z 1 : Nat), .int .u8 (z 2 : Nat), .int .u8 (z 3 : Nat), .int .u8 (z 4 : Nat), .int .u8 (z 5 : Nat), .int .u8 (z 6 : Nat)]
/-- The relation that the seven numbers tell. -/
def relAt (z : Nat → Nat) : Rel := ⟨z 0 % 4, z 1 % 6, z 2 % 6, z 5 % 5, z 6 % 4, startOf (z 3 % 4), endOf (z 4 % 4)⟩
def relsAt (z : Nat → Nat → Nat) (k : Nat) : List Rel := (List.range k).map fun i => relAt (z i)

theorem relsAt_succ (z : Nat → Nat → Nat) (k : Nat) : relsAt z (k + 1) = relsAt z k ++ [relAt (z k)] := by simp [relsAt, List.range_succ]
theorem relsAt_len (z : Nat → Nat → Nat) (k : Nat) : (relsAt z k).length = k := by simp [relsAt]
theorem relAt_ok (z : Nat → Nat) : (relAt z).ok := ⟨Nat.mod_lt _ (by decide), Nat.mod_lt _ (by decide), Nat.mod_lt _ (by decide), Nat.mod_lt _ (by decide), Nat.mod_lt _ (by decide)⟩
theorem relsAt_ok (z : Nat → Nat → Nat) (k : Nat) : ∀ i, i < (relsAt z k).length → ((relsAt z k).getD i r0).ok := by
  intro i hi
  have : (relsAt z k).getD i r0 = relAt (z i) := by
    rw [relsAt_len] at hi
    simp [relsAt, List.getD, hi]
  rw [this]
  exact relAt_ok _

def setF (f : Nat → Nat → Value) (j i : Nat) (u : Value) : Nat → Nat → Value := fun j' k => if j' = j then (if k = i then u else f j' k) else f j' k

/-- The law's world inside a round: the row that is read lies in block bx. -/
structure LB (w0 : World) (rb b1 b3 b4 b5 A n : Nat) (v2 : Value) (F4 F5 : Nat → Value) (L : List Rel) (f : Nat → Nat → Value) (bx : Nat) (cs : List Value) (W : World) : Prop where
  la : LA w0 rb b1 b3 b4 b5 A n v2 F4 F5 L f W
  hx : A + 7 ≤ bx
  lt : bx < W.heap.size
  box : ∀ j u, cs[j]? = some u → W.cell? ⟨bx, j, none⟩ = some u

theorem LB.set {w0 : World} {rb b1 b3 b4 b5 A n : Nat} {v2 : Value} {F4 F5 : Nat → Value} {L : List Rel} {f : Nat → Nat → Value} {bx : Nat} {cs : List Value} {W : World} (h : LB w0 rb b1 b3 b4 b5 A n v2 F4 F5 L f bx cs W) (j : Nat) (hj : j < 7) (i : Nat) (u : Value) : LB w0 rb b1 b3 b4 b5 A n v2 F4 F5 L (setF f j i u) bx cs (W.setCell ⟨A + j, i, none⟩ u) := by
  refine ⟨h.la.set j hj i u, h.hx, by simpa [World.setCell] using h.lt, fun j' u' hu => ?_⟩
  rw [cell_of_heap (Below.heap_setCell W ⟨A + j, i, none⟩ u bx (by have := h.hx; show bx ≠ A + j; omega))]
  exact h.box j' u' hu

theorem LB.new {w0 : World} {rb b1 b3 b4 b5 A n : Nat} {v2 : Value} {F4 F5 : Nat → Value} {L : List Rel} {f : Nat → Nat → Value} {W : World} (h : LA w0 rb b1 b3 b4 b5 A n v2 F4 F5 L f W) (cs : Array Value) (t : TypeId) : LB w0 rb b1 b3 b4 b5 A n v2 F4 F5 L f W.heap.size cs.toList (W.alloc (.cells cs t)) := by
  refine ⟨h.alloc _, by have := (h.arr 6 (by decide)).lt; omega, by simp, fun j u hu => ?_⟩
  unfold World.cell?
  rw [World.alloc_heap_new W (.cells cs t)]
  simpa using hu

section
variable {w0 : World} {rb b1 b3 b4 b5 A n : Nat} {v2 : Value} {F4 F5 : Nat → Value} {L : List Rel} {x : Rel} {d : Int} {W W' : World} {f : Nat → Nat → Value}

theorem LA.frame (h : LA w0 rb b1 b3 b4 b5 A n v2 F4 F5 L f W) : ∀ b, A ≤ b ∧ b < A + 7 → b < W.heap.size ∧ b ≠ rb ∧ b ≠ b3 ∧ b ≠ b4 ∧ b ≠ b5 ∧ ∀ i g, i < 15 → ownOf v2 F4 F5 i = some g → g ≠ b := by
  rintro b ⟨h1, h2⟩
  obtain ⟨j, rfl⟩ : ∃ j, b = A + j := ⟨b - A, by omega⟩
  obtain ⟨f1, _, f3, f4, f5, f6⟩ := h.free j (by omega)
  exact ⟨(h.arr j (by omega)).lt, f1, f3, f4, f5, f6⟩

theorem LA.step (h : LA w0 rb b1 b3 b4 b5 A n v2 F4 F5 L (arrV (L ++ [x]) d) W)
    (hr : ∃ v2' F4' F5', RegS w0.heap.size W' rb b1 b3 b4 b5 v2' F4' F5' (L ++ [x]) (L.length + 1) (L ++ [x]) (L ++ [x]) ∧ Below w0.heap.size W W' ∧ ∀ b, (A ≤ b ∧ b < A + 7) → W'.heap[b]? = W.heap[b]? ∧ ∀ i g, i < 15 → ownOf v2' F4' F5' i = some g → g ≠ b) :
    ∃ v2' F4' F5', LA w0 rb b1 b3 b4 b5 A n v2' F4' F5' (L ++ [x]) (arrV (L ++ [x]) d) W' := by
  obtain ⟨v2', F4', F5', hreg, hb, hk⟩ := hr
  refine ⟨v2', F4', F5', by rw [show (L ++ [x]).length = L.length + 1 by simp]; exact hreg, fun j hj => (h.arr j hj).of_block (hk (A + j) ⟨by omega, by omega⟩).1, fun j hj => ?_, h.bel.trans hb, h.lo⟩
  obtain ⟨f1, f2, f3, f4, f5, _⟩ := h.free j hj
  exact ⟨f1, f2, f3, f4, f5, (hk (A + j) ⟨by omega, by omega⟩).2⟩
end

set_option maxHeartbeats 20000000 in
set_option maxRecDepth 100000 in
theorem loop1 (w0 W : World) (vr : Value) (rb b1 b3 b4 b5 A N n0 : Nat) (z : Nat → Nat → Nat) (d : Int) (K : Act → World → Prop) (Q' : Exit → Act → World → Prop) (u1 u2 u3 u4 u5 u6 u7 u8 u9 u10 u11 u12 u24 u25 u26 u27 u28 u29 u30 u31 u32 u33 u34 u35 u36 u37 u38 u39 u40 u41 u42 u43 u44 u45 u46 u47 u48 u49 u50 u51 u52 u53 u54 u55 u56 u57 u58 u59 u60 u61 u62 u63 u64 u65 u66 u67 u68 u69 u70 u71 u72 u73 u74 u75 u76 u77 u78 u79 u80 u81 u82 u83 u84 u85 u86 u87 u88 u89 u90 u91 u92 u93 u94 u95 u96 u97 u98 u99 u100 u101 u102 u103 u104 u105 u106 u107 u108 u109 u110 u111 u112 u113 u114 u115 u116 u117 u118 u119 u120 u121 u122 u123 u124 u125 u126 u127 u128 u129 u130 u131 u132 u133 u134 u135 u136 u137 u138 u139 u140 u141 u142 u143 u144 u145 u146 u147 u148 u149 u150 u151 u152 u153 u154 u155 u156 u157 u158 u159 u160 u161 u162 u163 u164 u165 u166 u167 u168 u169 u170 u171 u172 u173 u174 u175 u176 u177 u178 u179 u180 u181 u182 u183 u184 u185 u186 u187 u188 u189 u190 u191 u192 u193 u194 u195 u196 u197 u198 u199 u200 u201 u202 u203 u204 u205 u206 u207 u208 u209 u210 u211 u212 u213 u214 u215 u216 u217 u218 u219 u220 u221 u222 u223 u224 u225 u226 u227 u228 u229 u230 u231 u232 u233 u234 u235 u236 u237 u238 u239 u240 u241 u242 u243 u244 u245 u246 u247 u248 u249 u250 u251 u252 u253 u254 u255 u256 u257 u258 u259 u260 u261 u262 u263 u264 u265 u266 u267 u268 u269 u270 u271 u272 u273 u274 u275 u276 u277 u278 u279 u280 u281 u282 u283 u284 u285 u286 u287 u288 u289 u290 u291 u292 u293 u294 u295 u296 u297 u298 u299 u300 u301 u302 u303 u304 u305 u306 u307 u308 u309 u310 u311 u312 u313 u314 u315 u316 u317 u318 u319 u320 u321 u322 u323 u324 u325 u326 u327 u328 u329 u330 u331 u332 u333 u334 u335 u336 u337 u338 u339 u340 u341 u342 u343 u344 u345 u346 u347 u348 u349 u350 u351 u352 u353 u354 u355 u356 u357 u358 u359 u360 u361 u362 u363 u364 u365 u366 u367 u368 u369 u370 u371 u372 u373 u374 u375 u376 u377 u378 u379 u380 u381 u382 u383 u384 u385 u386 u387 u388 u389 u390 u391 u392 u393 u394 u395 u396 u397 u398 u399 u400 u401 u402 u403 u404 u405 u406 u407 u408 u409 u410 u411 u412 u413 u414 u415 u416 u417 u418 u419 u420 u421 u422 u423 u424 u425 u426 u427 u428 u429 u430 u431 u432 u433 u434 u435 u436 u437 u438 u439 u440 u441 u442 u443 u444 u445 u446 u447 u448 u449 u450 u451 u452 u453 u454 u455 u456 u457 u458 u459 u460 u461 u462 u463 u464 u465 u466 u467 u468 u469 u470 u471 u472 u473 u474 u475 u476 u477 u478 u479 u480 u481 u482 u483 u484 u485 u486 u487 u488 u489 u490 u491 u492 u493 u494 u495 u496 u497 u498 u499 u500 u501 u502 u503 u504 u505 u506 u507 u508 u509 u510 u511 u512 u513 u514 u515 u516 u517 u518 u519 u520 u521 u522 u523 u524 u525 u526 u527 u528 u529 u530 u531 u532 u533 u534 u535 u536 u537 u538 u539 u540 u541 u542 u543 u544 u545 u546 u547 u548 u549 u550 u551 u552 u553 u554 u555 u556 u557 u558 u559 u560 u561 u562 u563 u564 u565 u566 u567 u568 u569 u570 u571 u572 u573 u574 u575 u576 u577 u578 u579 u580 u581 : Value)
    (hN : N ≤ 32) (hn0 : N ≤ n0) (HZ : Hid (∀ k j, z k j < 256)) (HV : Hid (Row AnyB w0 vr n0 7 (flat n0 fun k => zCells (z k))))
    (HL : Hid (∃ v2 F4 F5, LA w0 rb b1 b3 b4 b5 A N v2 F4 F5 [] (arrV [] d) W))
    (hK : ∀ (x12 x23 x24 x25 x26 x27 x94 x95 x96 x97 x98 x99 x100 x101 x102 x103 x104 x105 x106 x107 x108 x109 x110 x111 x112 x113 x114 x115 x116 x117 x118 x119 x120 x121 x122 x123 x124 x125 x126 x127 x128 x129 x130 x131 x132 x133 x134 x135 x136 x137 x138 x139 x140 x141 x142 x143 x144 x145 x146 x147 x148 x149 x150 x151 x152 x153 x154 x155 x156 x157 x158 x159 x160 x161 x162 x163 x164 x165 x166 x167 x168 x169 x170 x171 x172 x173 x174 x175 x176 x177 x178 x179 x180 x181 x182 x183 x184 x185 x186 x187 x188 x189 x190 x191 x192 x193 x194 x195 x196 x197 x198 x199 x200 x201 x202 x203 x204 x205 x206 x207 x208 x209 x210 : Value) (w' : World), Hid (∃ v2 F4 F5, LA w0 rb b1 b3 b4 b5 A N v2 F4 F5 (relsAt z N) (arrV (relsAt z N) d) w') → K ⟨#[vr, u1, u2, u3, u4, u5, u6, u7, u8, u9, u10, u11, x12, .int .i64 (N : Nat), .pointer (some ⟨rb, 0, none⟩), .slice (some ⟨A, 0, none⟩) N N, .slice (some ⟨(A + 1), 0, none⟩) N N, .slice (some ⟨(A + 2), 0, none⟩) N N, .slice (some ⟨(A + 3), 0, none⟩) N N, .slice (some ⟨(A + 4), 0, none⟩) N N, .slice (some ⟨(A + 5), 0, none⟩) N N, .slice (some ⟨(A + 6), 0, none⟩) N N, .int .i32 d, x23, x24, x25, x26, x27, u28, u29, u30, u31, u32, u33, u34, u35, u36, u37, u38, u39, u40, u41, u42, u43, u44, u45, u46, u47, u48, u49, u50, u51, u52, u53, u54, u55, u56, u57, u58, u59, u60, u61, u62, u63, u64, u65, u66, u67, u68, u69, u70, u71, u72, u73, u74, u75, u76, u77, u78, u79, u80, u81, u82, u83, u84, u85, u86, u87, u88, u89, u90, u91, u92, u93, x94, x95, x96, x97, x98, x99, x100, x101, x102, x103, x104, x105, x106, x107, x108, x109, x110, x111, x112, x113, x114, x115, x116, x117, x118, x119, x120, x121, x122, x123, x124, x125, x126, x127, x128, x129, x130, x131, x132, x133, x134, x135, x136, x137, x138, x139, x140, x141, x142, x143, x144, x145, x146, x147, x148, x149, x150, x151, x152, x153, x154, x155, x156, x157, x158, x159, x160, x161, x162, x163, x164, x165, x166, x167, x168, x169, x170, x171, x172, x173, x174, x175, x176, x177, x178, x179, x180, x181, x182, x183, x184, x185, x186, x187, x188, x189, x190, x191, x192, x193, x194, x195, x196, x197, x198, x199, x200, x201, x202, x203, x204, x205, x206, x207, x208, x209, x210, u211, u212, u213, u214, u215, u216, u217, u218, u219, u220, u221, u222, u223, u224, u225, u226, u227, u228, u229, u230, u231, u232, u233, u234, u235, u236, u237, u238, u239, u240, u241, u242, u243, u244, u245, u246, u247, u248, u249, u250, u251, u252, u253, u254, u255, u256, u257, u258, u259, u260, u261, u262, u263, u264, u265, u266, u267, u268, u269, u270, u271, u272, u273, u274, u275, u276, u277, u278, u279, u280, u281, u282, u283, u284, u285, u286, u287, u288, u289, u290, u291, u292, u293, u294, u295, u296, u297, u298, u299, u300, u301, u302, u303, u304, u305, u306, u307, u308, u309, u310, u311, u312, u313, u314, u315, u316, u317, u318, u319, u320, u321, u322, u323, u324, u325, u326, u327, u328, u329, u330, u331, u332, u333, u334, u335, u336, u337, u338, u339, u340, u341, u342, u343, u344, u345, u346, u347, u348, u349, u350, u351, u352, u353, u354, u355, u356, u357, u358, u359, u360, u361, u362, u363, u364, u365, u366, u367, u368, u369, u370, u371, u372, u373, u374, u375, u376, u377, u378, u379, u380, u381, u382, u383, u384, u385, u386, u387, u388, u389, u390, u391, u392, u393, u394, u395, u396, u397, u398, u399, u400, u401, u402, u403, u404, u405, u406, u407, u408, u409, u410, u411, u412, u413, u414, u415, u416, u417, u418, u419, u420, u421, u422, u423, u424, u425, u426, u427, u428, u429, u430, u431, u432, u433, u434, u435, u436, u437, u438, u439, u440, u441, u442, u443, u444, u445, u446, u447, u448, u449, u450, u451, u452, u453, u454, u455, u456, u457, u458, u459, u460, u461, u462, u463, u464, u465, u466, u467, u468, u469, u470, u471, u472, u473, u474, u475, u476, u477, u478, u479, u480, u481, u482, u483, u484, u485, u486, u487, u488, u489, u490, u491, u492, u493, u494, u495, u496, u497, u498, u499, u500, u501, u502, u503, u504, u505, u506, u507, u508, u509, u510, u511, u512, u513, u514, u515, u516, u517, u518, u519, u520, u521, u522, u523, u524, u525, u526, u527, u528, u529, u530, u531, u532, u533, u534, u535, u536, u537, u538, u539, u540, u541, u542, u543, u544, u545, u546, u547, u548, u549, u550, u551, u552, u553, u554, u555, u556, u557, u558, u559, u560, u561, u562, u563, u564, u565, u566, u567, u568, u569, u570, u571, u572, u573, u574, u575, u576, u577, u578, u579, u580, u581], []⟩ w') :
    Code.wp Ybaf.prog ((blockAt 0 (Ybaf.f3.body.getD .skip)).getD .skip) (Exit.then K Q')
      ⟨#[vr, u1, u2, u3, u4, u5, u6, u7, u8, u9, u10, u11, u12, .int .i64 (N : Nat), .pointer (some ⟨rb, 0, none⟩), .slice (some ⟨A, 0, none⟩) N N, .slice (some ⟨(A + 1), 0, none⟩) N N, .slice (some ⟨(A + 2), 0, none⟩) N N, .slice (some ⟨(A + 3), 0, none⟩) N N, .slice (some ⟨(A + 4), 0, none⟩) N N, .slice (some ⟨(A + 5), 0, none⟩) N N, .slice (some ⟨(A + 6), 0, none⟩) N N, .int .i32 d, .int .i64 0, u24, u25, u26, u27, u28, u29, u30, u31, u32, u33, u34, u35, u36, u37, u38, u39, u40, u41, u42, u43, u44, u45, u46, u47, u48, u49, u50, u51, u52, u53, u54, u55, u56, u57, u58, u59, u60, u61, u62, u63, u64, u65, u66, u67, u68, u69, u70, u71, u72, u73, u74, u75, u76, u77, u78, u79, u80, u81, u82, u83, u84, u85, u86, u87, u88, u89, u90, u91, u92, u93, u94, u95, u96, u97, u98, u99, u100, u101, u102, u103, u104, u105, u106, u107, u108, u109, u110, u111, u112, u113, u114, u115, u116, u117, u118, u119, u120, u121, u122, u123, u124, u125, u126, u127, u128, u129, u130, u131, u132, u133, u134, u135, u136, u137, u138, u139, u140, u141, u142, u143, u144, u145, u146, u147, u148, u149, u150, u151, u152, u153, u154, u155, u156, u157, u158, u159, u160, u161, u162, u163, u164, u165, u166, u167, u168, u169, u170, u171, u172, u173, u174, u175, u176, u177, u178, u179, u180, u181, u182, u183, u184, u185, u186, u187, u188, u189, u190, u191, u192, u193, u194, u195, u196, u197, u198, u199, u200, u201, u202, u203, u204, u205, u206, u207, u208, u209, u210, u211, u212, u213, u214, u215, u216, u217, u218, u219, u220, u221, u222, u223, u224, u225, u226, u227, u228, u229, u230, u231, u232, u233, u234, u235, u236, u237, u238, u239, u240, u241, u242, u243, u244, u245, u246, u247, u248, u249, u250, u251, u252, u253, u254, u255, u256, u257, u258, u259, u260, u261, u262, u263, u264, u265, u266, u267, u268, u269, u270, u271, u272, u273, u274, u275, u276, u277, u278, u279, u280, u281, u282, u283, u284, u285, u286, u287, u288, u289, u290, u291, u292, u293, u294, u295, u296, u297, u298, u299, u300, u301, u302, u303, u304, u305, u306, u307, u308, u309, u310, u311, u312, u313, u314, u315, u316, u317, u318, u319, u320, u321, u322, u323, u324, u325, u326, u327, u328, u329, u330, u331, u332, u333, u334, u335, u336, u337, u338, u339, u340, u341, u342, u343, u344, u345, u346, u347, u348, u349, u350, u351, u352, u353, u354, u355, u356, u357, u358, u359, u360, u361, u362, u363, u364, u365, u366, u367, u368, u369, u370, u371, u372, u373, u374, u375, u376, u377, u378, u379, u380, u381, u382, u383, u384, u385, u386, u387, u388, u389, u390, u391, u392, u393, u394, u395, u396, u397, u398, u399, u400, u401, u402, u403, u404, u405, u406, u407, u408, u409, u410, u411, u412, u413, u414, u415, u416, u417, u418, u419, u420, u421, u422, u423, u424, u425, u426, u427, u428, u429, u430, u431, u432, u433, u434, u435, u436, u437, u438, u439, u440, u441, u442, u443, u444, u445, u446, u447, u448, u449, u450, u451, u452, u453, u454, u455, u456, u457, u458, u459, u460, u461, u462, u463, u464, u465, u466, u467, u468, u469, u470, u471, u472, u473, u474, u475, u476, u477, u478, u479, u480, u481, u482, u483, u484, u485, u486, u487, u488, u489, u490, u491, u492, u493, u494, u495, u496, u497, u498, u499, u500, u501, u502, u503, u504, u505, u506, u507, u508, u509, u510, u511, u512, u513, u514, u515, u516, u517, u518, u519, u520, u521, u522, u523, u524, u525, u526, u527, u528, u529, u530, u531, u532, u533, u534, u535, u536, u537, u538, u539, u540, u541, u542, u543, u544, u545, u546, u547, u548, u549, u550, u551, u552, u553, u554, u555, u556, u557, u558, u559, u560, u561, u562, u563, u564, u565, u566, u567, u568, u569, u570, u571, u572, u573, u574, u575, u576, u577, u578, u579, u580, u581], []⟩ W := by
  let Qx : Exit → Act → World → Prop := bodyPost Ybaf.prog Ybaf.f3 fun _ _ => True
  have HK : Hid (∀ (x12 x23 x24 x25 x26 x27 x94 x95 x96 x97 x98 x99 x100 x101 x102 x103 x104 x105 x106 x107 x108 x109 x110 x111 x112 x113 x114 x115 x116 x117 x118 x119 x120 x121 x122 x123 x124 x125 x126 x127 x128 x129 x130 x131 x132 x133 x134 x135 x136 x137 x138 x139 x140 x141 x142 x143 x144 x145 x146 x147 x148 x149 x150 x151 x152 x153 x154 x155 x156 x157 x158 x159 x160 x161 x162 x163 x164 x165 x166 x167 x168 x169 x170 x171 x172 x173 x174 x175 x176 x177 x178 x179 x180 x181 x182 x183 x184 x185 x186 x187 x188 x189 x190 x191 x192 x193 x194 x195 x196 x197 x198 x199 x200 x201 x202 x203 x204 x205 x206 x207 x208 x209 x210 : Value) (w' : World), Hid (∃ v2 F4 F5, LA w0 rb b1 b3 b4 b5 A N v2 F4 F5 (relsAt z N) (arrV (relsAt z N) d) w') → K ⟨#[vr, u1, u2, u3, u4, u5, u6, u7, u8, u9, u10, u11, x12, .int .i64 (N : Nat), .pointer (some ⟨rb, 0, none⟩), .slice (some ⟨A, 0, none⟩) N N, .slice (some ⟨(A + 1), 0, none⟩) N N, .slice (some ⟨(A + 2), 0, none⟩) N N, .slice (some ⟨(A + 3), 0, none⟩) N N, .slice (some ⟨(A + 4), 0, none⟩) N N, .slice (some ⟨(A + 5), 0, none⟩) N N, .slice (some ⟨(A + 6), 0, none⟩) N N, .int .i32 d, x23, x24, x25, x26, x27, u28, u29, u30, u31, u32, u33, u34, u35, u36, u37, u38, u39, u40, u41, u42, u43, u44, u45, u46, u47, u48, u49, u50, u51, u52, u53, u54, u55, u56, u57, u58, u59, u60, u61, u62, u63, u64, u65, u66, u67, u68, u69, u70, u71, u72, u73, u74, u75, u76, u77, u78, u79, u80, u81, u82, u83, u84, u85, u86, u87, u88, u89, u90, u91, u92, u93, x94, x95, x96, x97, x98, x99, x100, x101, x102, x103, x104, x105, x106, x107, x108, x109, x110, x111, x112, x113, x114, x115, x116, x117, x118, x119, x120, x121, x122, x123, x124, x125, x126, x127, x128, x129, x130, x131, x132, x133, x134, x135, x136, x137, x138, x139, x140, x141, x142, x143, x144, x145, x146, x147, x148, x149, x150, x151, x152, x153, x154, x155, x156, x157, x158, x159, x160, x161, x162, x163, x164, x165, x166, x167, x168, x169, x170, x171, x172, x173, x174, x175, x176, x177, x178, x179, x180, x181, x182, x183, x184, x185, x186, x187, x188, x189, x190, x191, x192, x193, x194, x195, x196, x197, x198, x199, x200, x201, x202, x203, x204, x205, x206, x207, x208, x209, x210, u211, u212, u213, u214, u215, u216, u217, u218, u219, u220, u221, u222, u223, u224, u225, u226, u227, u228, u229, u230, u231, u232, u233, u234, u235, u236, u237, u238, u239, u240, u241, u242, u243, u244, u245, u246, u247, u248, u249, u250, u251, u252, u253, u254, u255, u256, u257, u258, u259, u260, u261, u262, u263, u264, u265, u266, u267, u268, u269, u270, u271, u272, u273, u274, u275, u276, u277, u278, u279, u280, u281, u282, u283, u284, u285, u286, u287, u288, u289, u290, u291, u292, u293, u294, u295, u296, u297, u298, u299, u300, u301, u302, u303, u304, u305, u306, u307, u308, u309, u310, u311, u312, u313, u314, u315, u316, u317, u318, u319, u320, u321, u322, u323, u324, u325, u326, u327, u328, u329, u330, u331, u332, u333, u334, u335, u336, u337, u338, u339, u340, u341, u342, u343, u344, u345, u346, u347, u348, u349, u350, u351, u352, u353, u354, u355, u356, u357, u358, u359, u360, u361, u362, u363, u364, u365, u366, u367, u368, u369, u370, u371, u372, u373, u374, u375, u376, u377, u378, u379, u380, u381, u382, u383, u384, u385, u386, u387, u388, u389, u390, u391, u392, u393, u394, u395, u396, u397, u398, u399, u400, u401, u402, u403, u404, u405, u406, u407, u408, u409, u410, u411, u412, u413, u414, u415, u416, u417, u418, u419, u420, u421, u422, u423, u424, u425, u426, u427, u428, u429, u430, u431, u432, u433, u434, u435, u436, u437, u438, u439, u440, u441, u442, u443, u444, u445, u446, u447, u448, u449, u450, u451, u452, u453, u454, u455, u456, u457, u458, u459, u460, u461, u462, u463, u464, u465, u466, u467, u468, u469, u470, u471, u472, u473, u474, u475, u476, u477, u478, u479, u480, u481, u482, u483, u484, u485, u486, u487, u488, u489, u490, u491, u492, u493, u494, u495, u496, u497, u498, u499, u500, u501, u502, u503, u504, u505, u506, u507, u508, u509, u510, u511, u512, u513, u514, u515, u516, u517, u518, u519, u520, u521, u522, u523, u524, u525, u526, u527, u528, u529, u530, u531, u532, u533, u534, u535, u536, u537, u538, u539, u540, u541, u542, u543, u544, u545, u546, u547, u548, u549, u550, u551, u552, u553, u554, u555, u556, u557, u558, u559, u560, u561, u562, u563, u564, u565, u566, u567, u568, u569, u570, u571, u572, u573, u574, u575, u576, u577, u578, u579, u580, u581], []⟩ w') := hK
  clear hK
  conv => arg 2; whnf
  go_wp2_with fail
  go_loopw [23] (fun i wr => ∃ k : Nat, k ≤ N ∧ i = .int .i64 k ∧ Hid (∃ v2 F4 F5, LA w0 rb b1 b3 b4 b5 A N v2 F4 F5 (relsAt z k) (arrV (relsAt z k) d) wr)) (fun i _ => N - (intOf i).toNat)
  case atStart => exact ⟨0, by omega, rfl, HL⟩
  case round =>
    clear HL
    obtain ⟨k, hk, rfl, hL⟩ := hrel
    by_cases hlt : k < N
    · obtain ⟨v2, F4, F5, hL⟩ := hL
      have HL : Hid (LA w0 rb b1 b3 b4 b5 A N v2 F4 F5 (relsAt z k) (arrV (relsAt z k) d) wr) := hL
      clear hL
      obtain ⟨bv, ov, cv, hve, -, hlv, hcv⟩ := HV.out.cell (by omega)
      have hcs : ∀ j u, (zCells (z k))[j]? = some u → wr.cell? ⟨bv, ov + (k * 7 + j), none⟩ = some u := fun j u hj => by
        have hj7 : j < 7 := by
          have := (List.getElem?_eq_some_iff.1 hj).1
          simpa [zCells] using this
        refine (HL.out.bel.cell (p := ⟨bv, ov + (k * 7 + j), none⟩) hlv).trans (hcv _ _ ?_)
        rw [flat_get (m := 7) (fun i _ => rfl) (by omega) hj7]
        exact hj
      have x0 := hcs 0 _ rfl
      have x1 := hcs 1 _ rfl
      have x2 := hcs 2 _ rfl
      have x3 := hcs 3 _ rfl
      have x4 := hcs 4 _ rfl
      have x5 := hcs 5 _ rfl
      have x6 := hcs 6 _ rfl
      simp only [← Nat.add_assoc, Nat.add_zero] at x0 x1 x2 x3 x4 x5 x6
      subst hve
      clear hcv hcs
      have z0 := HZ.out k 0
      have z1 := HZ.out k 1
      have z2 := HZ.out k 2
      have z3 := HZ.out k 3
      have z4 := HZ.out k 4
      have z5 := HZ.out k 5
      have z6 := HZ.out k 6
      have Hx : Hid (relAt (z k) = ⟨z k 0 % 4, z k 1 % 6, z k 2 % 6, z k 5 % 5, z k 6 % 4, startOf (z k 3 % 4), endOf (z k 4 % 4)⟩) := rfl
      generalize z k 0 = y0 at *
      generalize z k 1 = y1 at *
      generalize z k 2 = y2 at *
      generalize z k 3 = y3 at *
      generalize z k 4 = y4 at *
      generalize z k 5 = y5 at *
      generalize z k 6 = y6 at *
      obtain ⟨ty, hty⟩ : ∃ ty, y0 % 4 = ty := ⟨_, rfl⟩
      obtain ⟨fr, hfr⟩ : ∃ fr, y1 % 6 = fr := ⟨_, rfl⟩
      obtain ⟨dt, hdt⟩ : ∃ dt, y2 % 6 = dt := ⟨_, rfl⟩
      obtain ⟨s3, hs3⟩ : ∃ s3, y3 % 4 = s3 := ⟨_, rfl⟩
      obtain ⟨s4, hs4⟩ : ∃ s4, y4 % 4 = s4 := ⟨_, rfl⟩
      obtain ⟨ro, hro⟩ : ∃ ro, y5 % 5 = ro := ⟨_, rfl⟩
      obtain ⟨ti, hti⟩ : ∃ ti, y6 % 4 = ti := ⟨_, rfl⟩
      rw [hty, hfr, hdt, hs3, hs4, hro, hti] at Hx
      have e0 : (y0 : Int) % 4 = (ty : Int) := by omega
      have e1 : (y1 : Int) % 6 = (fr : Int) := by omega
      have e2 : (y2 : Int) % 6 = (dt : Int) := by omega
      have e3 : (y3 : Int) % 4 = (s3 : Int) := by omega
      have e4 : (y4 : Int) % 4 = (s4 : Int) := by omega
      have e5 : (y5 : Int) % 5 = (ro : Int) := by omega
      have e6 : (y6 : Int) % 4 = (ti : Int) := by omega
      have m0 : ty < 4 := by omega
      have m1 : fr < 6 := by omega
      have m2 : dt < 6 := by omega
      have m3 : s3 < 4 := by omega
      have m4 : s4 < 4 := by omega
      have m5 : ro < 5 := by omega
      have m6 : ti < 4 := by omega
      clear hty hfr hdt hs3 hs4 hro hti
      have HB : Hid (LB w0 rb b1 b3 b4 b5 A N v2 F4 F5 (relsAt z k) (arrV (relsAt z k) d) wr.heap.size [.int .u8 (y0 : Nat), .int .u8 (y1 : Nat), .int .u8 (y2 : Nat), .int .u8 (y3 : Nat), .int .u8 (y4 : Nat), .int .u8 (y5 : Nat), .int .u8 (y6 : Nat)] (wr.alloc (.cells #[.int .u8 (y0 : Nat), .int .u8 (y1 : Nat), .int .u8 (y2 : Nat), .int .u8 (y3 : Nat), .int .u8 (y4 : Nat), .int .u8 (y5 : Nat), .int .u8 (y6 : Nat)] 32))) := LB.new HL.out #[.int .u8 (y0 : Nat), .int .u8 (y1 : Nat), .int .u8 (y2 : Nat), .int .u8 (y3 : Nat), .int .u8 (y4 : Nat), .int .u8 (y5 : Nat), .int .u8 (y6 : Nat)] 32
      go_upto_region 19 with fail
      generalize wr.alloc (.cells #[.int .u8 (y0 : Nat), .int .u8 (y1 : Nat), .int .u8 (y2 : Nat), .int .u8 (y3 : Nat), .int .u8 (y4 : Nat), .int .u8 (y5 : Nat), .int .u8 (y6 : Nat)] 32) = w1 at *
      generalize wr.heap.size = bx at *
      clear x0 x1 x2 x3 x4 x5 x6
      have bf := HB.out.box 0 _ rfl
      have ac : w1.cell? ⟨A, k, none⟩ = some ((arrV (relsAt z k) d) 0 k) := (HB.out.la.arr 0 (by decide)).cell hlt
      have ag : w1.frozen? ⟨A, k, none⟩ = false := (HB.out.la.arr 0 (by decide)).frozen k
      have al : A < w1.heap.size := (HB.out.la.arr 0 (by decide)).lt
      have bl := HB.out.lt
      generalize (arrV (relsAt z k) d) 0 k = o at ac
      have HB' : Hid (LB w0 rb b1 b3 b4 b5 A N v2 F4 F5 (relsAt z k) (setF (arrV (relsAt z k) d) 0 k (.int .i64 (ty : Nat))) bx [.int .u8 (y0 : Nat), .int .u8 (y1 : Nat), .int .u8 (y2 : Nat), .int .u8 (y3 : Nat), .int .u8 (y4 : Nat), .int .u8 (y5 : Nat), .int .u8 (y6 : Nat)] (w1.setCell ⟨A, k, none⟩ (.int .i64 (ty : Nat)))) := HB.out.set 0 (by decide) k _
      go_upto_region 20 with fail
      generalize w1.setCell ⟨A, k, none⟩ (.int .i64 (ty : Nat)) = w2 at *
      clear HB bf ac ag al bl
      have HB := HB'
      clear HB'
      have bf := HB.out.box 1 _ rfl
      have ac : w2.cell? ⟨A + 1, k, none⟩ = some ((setF (arrV (relsAt z k) d) 0 k (.int .i64 (ty : Nat))) 1 k) := (HB.out.la.arr 1 (by decide)).cell hlt
      have ag : w2.frozen? ⟨A + 1, k, none⟩ = false := (HB.out.la.arr 1 (by decide)).frozen k
      have al : A + 1 < w2.heap.size := (HB.out.la.arr 1 (by decide)).lt
      have bl := HB.out.lt
      generalize (setF (arrV (relsAt z k) d) 0 k (.int .i64 (ty : Nat))) 1 k = o at ac
      have HB' : Hid (LB w0 rb b1 b3 b4 b5 A N v2 F4 F5 (relsAt z k) (setF (setF (arrV (relsAt z k) d) 0 k (.int .i64 (ty : Nat))) 1 k (.int .i64 (fr : Nat))) bx [.int .u8 (y0 : Nat), .int .u8 (y1 : Nat), .int .u8 (y2 : Nat), .int .u8 (y3 : Nat), .int .u8 (y4 : Nat), .int .u8 (y5 : Nat), .int .u8 (y6 : Nat)] (w2.setCell ⟨A + 1, k, none⟩ (.int .i64 (fr : Nat)))) := HB.out.set 1 (by decide) k _
      go_upto_region 21 with fail
      generalize w2.setCell ⟨A + 1, k, none⟩ (.int .i64 (fr : Nat)) = w3 at *
      clear HB bf ac ag al bl
      have HB := HB'
      clear HB'
      have bf := HB.out.box 2 _ rfl
      have ac : w3.cell? ⟨A + 2, k, none⟩ = some ((setF (setF (arrV (relsAt z k) d) 0 k (.int .i64 (ty : Nat))) 1 k (.int .i64 (fr : Nat))) 2 k) := (HB.out.la.arr 2 (by decide)).cell hlt
      have ag : w3.frozen? ⟨A + 2, k, none⟩ = false := (HB.out.la.arr 2 (by decide)).frozen k
      have al : A + 2 < w3.heap.size := (HB.out.la.arr 2 (by decide)).lt
      have bl := HB.out.lt
      generalize (setF (setF (arrV (relsAt z k) d) 0 k (.int .i64 (ty : Nat))) 1 k (.int .i64 (fr : Nat))) 2 k = o at ac
      have HB' : Hid (LB w0 rb b1 b3 b4 b5 A N v2 F4 F5 (relsAt z k) (setF (setF (setF (arrV (relsAt z k) d) 0 k (.int .i64 (ty : Nat))) 1 k (.int .i64 (fr : Nat))) 2 k (.int .i64 (dt : Nat))) bx [.int .u8 (y0 : Nat), .int .u8 (y1 : Nat), .int .u8 (y2 : Nat), .int .u8 (y3 : Nat), .int .u8 (y4 : Nat), .int .u8 (y5 : Nat), .int .u8 (y6 : Nat)] (w3.setCell ⟨A + 2, k, none⟩ (.int .i64 (dt : Nat)))) := HB.out.set 2 (by decide) k _
      go_upto_region 22 with fail
      generalize w3.setCell ⟨A + 2, k, none⟩ (.int .i64 (dt : Nat)) = w4 at *
      clear HB bf ac ag al bl
      have HB := HB'
      clear HB'
      have bf := HB.out.box 5 _ rfl
      have ac : w4.cell? ⟨A + 3, k, none⟩ = some ((setF (setF (setF (arrV (relsAt z k) d) 0 k (.int .i64 (ty : Nat))) 1 k (.int .i64 (fr : Nat))) 2 k (.int .i64 (dt : Nat))) 3 k) := (HB.out.la.arr 3 (by decide)).cell hlt
      have ag : w4.frozen? ⟨A + 3, k, none⟩ = false := (HB.out.la.arr 3 (by decide)).frozen k
      have al : A + 3 < w4.heap.size := (HB.out.la.arr 3 (by decide)).lt
      have bl := HB.out.lt
      generalize (setF (setF (setF (arrV (relsAt z k) d) 0 k (.int .i64 (ty : Nat))) 1 k (.int .i64 (fr : Nat))) 2 k (.int .i64 (dt : Nat))) 3 k = o at ac
      have HB' : Hid (LB w0 rb b1 b3 b4 b5 A N v2 F4 F5 (relsAt z k) (setF (setF (setF (setF (arrV (relsAt z k) d) 0 k (.int .i64 (ty : Nat))) 1 k (.int .i64 (fr : Nat))) 2 k (.int .i64 (dt : Nat))) 3 k (.int .i64 (ro : Nat))) bx [.int .u8 (y0 : Nat), .int .u8 (y1 : Nat), .int .u8 (y2 : Nat), .int .u8 (y3 : Nat), .int .u8 (y4 : Nat), .int .u8 (y5 : Nat), .int .u8 (y6 : Nat)] (w4.setCell ⟨A + 3, k, none⟩ (.int .i64 (ro : Nat)))) := HB.out.set 3 (by decide) k _
      go_upto_region 23 with fail
      generalize w4.setCell ⟨A + 3, k, none⟩ (.int .i64 (ro : Nat)) = w5 at *
      clear HB bf ac ag al bl
      have HB := HB'
      clear HB'
      have bf := HB.out.box 6 _ rfl
      have ac : w5.cell? ⟨A + 4, k, none⟩ = some ((setF (setF (setF (setF (arrV (relsAt z k) d) 0 k (.int .i64 (ty : Nat))) 1 k (.int .i64 (fr : Nat))) 2 k (.int .i64 (dt : Nat))) 3 k (.int .i64 (ro : Nat))) 4 k) := (HB.out.la.arr 4 (by decide)).cell hlt
      have ag : w5.frozen? ⟨A + 4, k, none⟩ = false := (HB.out.la.arr 4 (by decide)).frozen k
      have al : A + 4 < w5.heap.size := (HB.out.la.arr 4 (by decide)).lt
      have bl := HB.out.lt
      generalize (setF (setF (setF (setF (arrV (relsAt z k) d) 0 k (.int .i64 (ty : Nat))) 1 k (.int .i64 (fr : Nat))) 2 k (.int .i64 (dt : Nat))) 3 k (.int .i64 (ro : Nat))) 4 k = o at ac
      have HB' : Hid (LB w0 rb b1 b3 b4 b5 A N v2 F4 F5 (relsAt z k) (setF (setF (setF (setF (setF (arrV (relsAt z k) d) 0 k (.int .i64 (ty : Nat))) 1 k (.int .i64 (fr : Nat))) 2 k (.int .i64 (dt : Nat))) 3 k (.int .i64 (ro : Nat))) 4 k (.int .i64 (ti : Nat))) bx [.int .u8 (y0 : Nat), .int .u8 (y1 : Nat), .int .u8 (y2 : Nat), .int .u8 (y3 : Nat), .int .u8 (y4 : Nat), .int .u8 (y5 : Nat), .int .u8 (y6 : Nat)] (w5.setCell ⟨A + 4, k, none⟩ (.int .i64 (ti : Nat)))) := HB.out.set 4 (by decide) k _
      go_upto_region 24 with fail
      generalize w5.setCell ⟨A + 4, k, none⟩ (.int .i64 (ti : Nat)) = w6 at *
      clear HB bf ac ag al bl
      have HB := HB'
      clear HB'
      have bf3 := HB.out.box 3 _ rfl
      have bf4 := HB.out.box 4 _ rfl
      have bl := HB.out.lt
      go_wp2_with fail
      refine (start_any s3 m3 w6).mono ?_
      rintro e w7 ⟨rfl, rfl⟩
      generalize startOf s3 = st at *
      go_wp2_with fail
      refine (end_any s4 m4 w7).mono ?_
      rintro e w8 ⟨rfl, rfl⟩
      generalize endOf s4 = en at *
      clear bf3 bf4
      obtain ⟨on, hon⟩ : ∃ on, (decide (st ≤ d) && (decide (en = 0) || decide (d ≤ en))) = on := ⟨_, rfl⟩
      have Hon : Hid ((decide (st ≤ d) && (decide (en = 0) || decide (d ≤ en))) = on) := hon
      clear hon
      have ac : w8.cell? ⟨A + 5, k, none⟩ = some ((setF (setF (setF (setF (setF (arrV (relsAt z k) d) 0 k (.int .i64 (ty : Nat))) 1 k (.int .i64 (fr : Nat))) 2 k (.int .i64 (dt : Nat))) 3 k (.int .i64 (ro : Nat))) 4 k (.int .i64 (ti : Nat))) 5 k) := (HB.out.la.arr 5 (by decide)).cell hlt
      have ag : w8.frozen? ⟨A + 5, k, none⟩ = false := (HB.out.la.arr 5 (by decide)).frozen k
      have al : A + 5 < w8.heap.size := (HB.out.la.arr 5 (by decide)).lt
      generalize (setF (setF (setF (setF (setF (arrV (relsAt z k) d) 0 k (.int .i64 (ty : Nat))) 1 k (.int .i64 (fr : Nat))) 2 k (.int .i64 (dt : Nat))) 3 k (.int .i64 (ro : Nat))) 4 k (.int .i64 (ti : Nat))) 5 k = o at ac
      have HB' : Hid (LB w0 rb b1 b3 b4 b5 A N v2 F4 F5 (relsAt z k) (setF (setF (setF (setF (setF (setF (arrV (relsAt z k) d) 0 k (.int .i64 (ty : Nat))) 1 k (.int .i64 (fr : Nat))) 2 k (.int .i64 (dt : Nat))) 3 k (.int .i64 (ro : Nat))) 4 k (.int .i64 (ti : Nat))) 5 k (.bool on)) bx [.int .u8 (y0 : Nat), .int .u8 (y1 : Nat), .int .u8 (y2 : Nat), .int .u8 (y3 : Nat), .int .u8 (y4 : Nat), .int .u8 (y5 : Nat), .int .u8 (y6 : Nat)] (w8.setCell ⟨A + 5, k, none⟩ (.bool on))) := HB.out.set 5 (by decide) k _
      go_upto_region 26 with fail
      go_cut [161] (fun _ wc => wc = w8.setCell ⟨A + 5, k, none⟩ (.bool on))
      case first =>
        by_cases q1 : st ≤ d
        · by_cases q2 : en = 0
          · obtain rfl : on = true := by rw [← Hon.out]; simp [q1, q2]
            subst q2
            go_wp2_with fail
            go_meet
            case rel => rfl
          · have q2' : (en == 0) = false := by simpa using q2
            by_cases q3 : d ≤ en
            · obtain rfl : on = true := by rw [← Hon.out]; simp [q1, q3]
              go_wp2_with fail
              go_meet
              case rel => rfl
            · obtain rfl : on = false := by rw [← Hon.out]; simp [q2, q3]
              go_wp2_with fail
              go_meet
              case rel => rfl
        · obtain rfl : on = false := by rw [← Hon.out]; simp [q1]
          go_wp2_with fail
          go_meet
          case rel => rfl
      case rest =>
        rw [← hcut] at HB'
        clear hcut HB ac ag al bl
        have HB := HB'
        clear HB'
        have at0 : wc.cell? ⟨A, k, none⟩ = some (.int .i64 (ty : Nat)) := ((HB.out.la.arr 0 (by decide)).cell hlt).trans (by simp [setF])
        have at5 : wc.cell? ⟨A + 5, k, none⟩ = some (.bool on) := ((HB.out.la.arr 5 (by decide)).cell hlt).trans (by simp [setF])
        have ac : wc.cell? ⟨A + 6, k, none⟩ = some ((setF (setF (setF (setF (setF (setF (arrV (relsAt z k) d) 0 k (.int .i64 (ty : Nat))) 1 k (.int .i64 (fr : Nat))) 2 k (.int .i64 (dt : Nat))) 3 k (.int .i64 (ro : Nat))) 4 k (.int .i64 (ti : Nat))) 5 k (.bool on)) 6 k) := (HB.out.la.arr 6 (by decide)).cell hlt
        have ag : wc.frozen? ⟨A + 6, k, none⟩ = false := (HB.out.la.arr 6 (by decide)).frozen k
        have al : A + 6 < wc.heap.size := (HB.out.la.arr 6 (by decide)).lt
        generalize (setF (setF (setF (setF (setF (setF (arrV (relsAt z k) d) 0 k (.int .i64 (ty : Nat))) 1 k (.int .i64 (fr : Nat))) 2 k (.int .i64 (dt : Nat))) 3 k (.int .i64 (ro : Nat))) 4 k (.int .i64 (ti : Nat))) 5 k (.bool on)) 6 k = o at ac
        have HB' : Hid (LB w0 rb b1 b3 b4 b5 A N v2 F4 F5 (relsAt z k) (setF (setF (setF (setF (setF (setF (setF (arrV (relsAt z k) d) 0 k (.int .i64 (ty : Nat))) 1 k (.int .i64 (fr : Nat))) 2 k (.int .i64 (dt : Nat))) 3 k (.int .i64 (ro : Nat))) 4 k (.int .i64 (ti : Nat))) 5 k (.bool on)) 6 k (.bool (ty == 1 && on))) bx [.int .u8 (y0 : Nat), .int .u8 (y1 : Nat), .int .u8 (y2 : Nat), .int .u8 (y3 : Nat), .int .u8 (y4 : Nat), .int .u8 (y5 : Nat), .int .u8 (y6 : Nat)] (wc.setCell ⟨A + 6, k, none⟩ (.bool (ty == 1 && on)))) := HB.out.set 6 (by decide) k _
        go_upto_region 27 with fail
        go_cut [175] (fun _ wd => wd = wc.setCell ⟨A + 6, k, none⟩ (.bool (ty == 1 && on)))
        case first =>
          by_cases q1 : ty = 1
          · subst q1
            go_wp2_with fail
            go_meet
            case rel => rfl
          · have q1' : ((ty : Int) == 1) = false := by simp; omega
            have q2' : (ty == 1) = false := by simpa using q1
            go_wp2_with fail
            go_meet
            case rel => first | rfl | exact set_eq (by simp [q2'])
        case rest =>
          rw [← hcut] at HB'
          clear hcut HB ac ag al at0 at5
          have HB := HB'
          clear HB'
          have HA : Hid (LA w0 rb b1 b3 b4 b5 A N v2 F4 F5 (relsAt z k) (arrV (relsAt z k ++ [⟨ty, fr, dt, ro, ti, st, en⟩]) d) wc) := HB.out.la.congr fun j i hj _ => by
            have h1 := arrV_snoc (relsAt z k) ⟨ty, fr, dt, ro, ti, st, en⟩ d j i hj
            rw [relsAt_len, show (Rel.on ⟨ty, fr, dt, ro, ti, st, en⟩ d) = on from Hon.out] at h1
            rw [← h1]
            simp only [setF]
            rcases lt7 hj with rfl | rfl | rfl | rfl | rfl | rfl | rfl <;> simp
          clear HB
          have hk32 : k < 32 := by omega
          have Hlen : Hid ((relsAt z k).length = k) := relsAt_len z k
          go_upto_region 28 with fail
          refine region28 w0 wc rb b1 b3 b4 b5 A N k ty fr dt ro ti v2 F4 F5 (relsAt z k) st en d _ _ _ _ _ _ _ _ _ _ _ _ _ _ _ _ _ _ _ _ _ _ _ _ _ _ _ _ _ _ _ _ _ _ _ _ _ _ _ _ _ _ _ _ _ _ _ _ _ _ _ _ _ _ _ _ _ _ _ _ _ _ _ _ _ _ _ _ _ _ _ _ _ _ _ _ _ _ _ _ _ _ _ _ _ _ _ _ _ _ _ _ _ _ _ _ _ _ _ _ _ _ _ _ _ _ _ _ _ _ _ _ _ _ _ _ _ _ _ _ _ _ _ _ _ _ _ _ _ _ _ _ _ _ _ _ _ _ _ _ _ _ _ _ _ _ _ _ _ _ _ _ _ _ _ _ _ _ _ _ _ _ _ _ _ _ _ _ _ _ _ _ _ _ _ _ _ _ _ _ _ _ _ _ _ _ _ _ _ _ _ _ _ _ _ _ _ _ _ _ _ _ _ _ _ _ _ _ _ _ _ _ _ _ _ _ _ _ _ _ _ _ _ _ _ _ _ _ _ _ _ _ _ _ _ _ _ _ _ _ _ _ _ _ _ _ _ _ _ _ _ _ _ _ _ _ _ _ _ _ _ _ _ _ _ _ _ _ _ _ _ _ _ _ _ _ _ _ _ _ _ _ _ _ _ _ _ _ _ _ _ _ _ _ _ _ _ _ _ _ _ _ _ _ _ _ _ _ _ _ _ _ _ _ _ _ _ _ _ _ _ _ _ _ _ _ _ _ _ _ _ _ _ _ _ _ _ _ _ _ _ _ _ _ _ _ _ _ _ _ _ _ _ _ _ _ _ _ _ _ _ _ _ _ _ _ _ _ _ _ _ _ _ _ _ _ _ _ _ _ _ _ _ _ _ _ _ _ _ _ _ _ _ _ _ _ _ _ _ _ _ _ _ _ _ _ _ _ _ _ _ _ _ _ _ _ _ _ _ _ _ _ _ _ _ _ _ _ _ _ _ _ _ _ _ _ _ _ _ _ _ _ _ _ _ _ _ _ _ _ _ _ _ _ _ _ _ _ _ _ _ _ _ _ _ _ _ _ _ _ _ _ _ _ _ _ _ _ _ _ _ _ _ _ _ _ _ _ _ _ _ _ _ _ _ _ _ _ _ _ _ _ _ _ _ _ _ _ _ _ _ _ _ _ _ _ _ _ _ _ _ _ _ _ _ _ _ _ _ _ _ _ _ _ _ _ _ _ _ _ _ _ _ _ _ _ _ _ _ _ _ _ _ _ _ _ _ _ _ _ _ _ _ _ _ _ _ _ _ _ _ _ _ _ _ hlt hk32 m0 m1 m2 m5 m6 Hlen HA ?_
          intro x27 x177 x178 x179 x180 x181 x182 x183 x184 x185 x186 x187 x188 x189 x190 x191 x192 x193 x194 x195 x196 x197 x198 x199 x200 x201 x202 x203 x204 x205 x206 wd hcut
          obtain ⟨nb, e27, hA, hnb, hbox⟩ := hcut
          subst e27
          have HD : Hid (LA w0 rb b1 b3 b4 b5 A N v2 F4 F5 (relsAt z k) (arrV (relsAt z k ++ [⟨ty, fr, dt, ro, ti, st, en⟩]) d) wd) := hA
          have c0 := hbox 0 _ rfl
          have c1 := hbox 1 _ rfl
          have c2 := hbox 2 _ rfl
          have c3 := hbox 3 _ rfl
          have c4 := hbox 4 _ rfl
          have c5 := hbox 5 _ rfl
          have c6 := hbox 6 _ rfl
          have c7 := hbox 7 _ rfl
          have c8 := hbox 8 _ rfl
          have c9 := hbox 9 _ rfl
          have HRel : Hid (Calls Ybaf.prog 13 #[.pointer (some ⟨rb, 0, none⟩), .agg #[.string (idOf k), .string (typeOf ty), .string (nameOf fr), .string (nameOf dt), .int .i32 st, .int .i32 en, .string (roleOf ro), .int .i64 0, .pointer none, .string (tieOf ti)]] wd
              fun e w' => e = .returned .nilIface ∧ ∃ v2' F4' F5', LA w0 rb b1 b3 b4 b5 A N v2' F4' F5' (relsAt z k ++ [⟨ty, fr, dt, ro, ti, st, en⟩]) (arrV (relsAt z k ++ [⟨ty, fr, dt, ro, ti, st, en⟩]) d) w') := by
            have h1 := relate_any (fun b => A ≤ b ∧ b < A + 7) ⟨ty, fr, dt, ro, ti, st, en⟩ hA.reg (by rw [relsAt_len]; omega) ⟨m0, m1, m2, m5, m6⟩ hA.bel.size hA.frame
            rw [relsAt_len] at h1
            refine h1.mono ?_
            rintro e w' ⟨h2, h3⟩
            refine ⟨h2, hA.step ?_⟩
            rw [relsAt_len]
            exact h3
          clear hbox hA HA
          generalize idOf k = s0 at *
          generalize typeOf ty = s1 at *
          generalize nameOf fr = s2 at *
          generalize nameOf dt = s3' at *
          generalize roleOf ro = s6 at *
          generalize tieOf ti = s9 at *
          go_wp2_with fail
          refine HRel.out.mono ?_
          rintro e w2 ⟨rfl, h2⟩
          have HL1 : Hid (∃ v2 F4 F5, LA w0 rb b1 b3 b4 b5 A N v2 F4 F5 (relsAt z (k + 1)) (arrV (relsAt z (k + 1)) d) w2) := by
            show ∃ v2 F4 F5, _
            rw [relsAt_succ, Hx.out]
            exact h2
          clear h2 HRel c0 c1 c2 c3 c4 c5 c6 c7 c8 c9
          go_wp2_with fail
          go_roundw
          case rel => first | exact ⟨k + 1, by omega, by go_num, HL1⟩ | ((repeat apply Exists.intro); refine ⟨?_, rfl⟩; exact ⟨k + 1, by omega, by go_num, HL1⟩)
          case measure => simp [intOf]; omega
    · obtain rfl : k = N := by omega
      go_wp2_with fail
      exact HK.out _ _ _ _ _ _ _ _ _ _ _ _ _ _ _ _ _ _ _ _ _ _ _ _ _ _ _ _ _ _ _ _ _ _ _ _ _ _ _ _ _ _ _ _ _ _ _ _ _ _ _ _ _ _ _ _ _ _ _ _ _ _ _ _ _ _ _ _ _ _ _ _ _ _ _ _ _ _ _ _ _ _ _ _ _ _ _ _ _ _ _ _ _ _ _ _ _ _ _ _ _ _ _ _ _ _ _ _ _ _ _ _ _ _ _ _ _ _ _ _ _ _ _ wr hL

end Go.Proofs.YbulkcfwsFmt
