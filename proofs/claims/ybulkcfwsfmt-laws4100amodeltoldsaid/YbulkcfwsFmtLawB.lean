import Derived.Test.YbulkcfwsFmtLawE
import Derived.Test.YbulkcfwsFmtLoop2
import Derived.Test.YbulkcfwsFmtLoop3
import Derived.Test.YbulkcfwsFmtLoop5
namespace Go.Proofs.YbulkcfwsFmt
open Go.RowKit

theorem info50 : (Ybaf.prog.info? 50).map (fun i => (i.zero, i.size, i.bytes)) = some (some (Value.slice none 0 0), 1, 24) := by kernel_rfl
theorem info27 : (Ybaf.prog.info? 27).map (fun i => (i.zero, i.size, i.bytes)) = some (some (Value.slice none 0 0), 1, 24) := by kernel_rfl
theorem info36 : (Ybaf.prog.info? 36).map (fun i => (i.zero, i.size, i.bytes)) = some (some (Value.string ⟨#[]⟩), 1, 16) := by kernel_rfl

/-- What stands when the relations are recorded. -/
structure LBD (w0 W : World) (rb A n3 n4 n5 : Nat) (vpe vpa vro : Value) (zp zr : Nat → Nat) (pv : Nat → Value) (ln : Nat → Nat) (z : Nat → Nat → Nat) (L : List Rel) (d : Int) : Prop where
  good : ∀ i, i < L.length → (L.getD i r0).ok
  reg : Reg AnyB W rb L
  arr : ∀ j, j < 7 → W.rowIs (A + j) (arrT j) L.length (arrV L d j)
  v3 : Row AnyB w0 vpe n3 1 (flat n3 fun i => [.int .u8 (zp i : Nat)])
  v4 : Row AnyB w0 vpa n4 1 (flat n4 fun q => [pv q])
  vq : ∀ q, q < n4 → Row AnyB w0 (pv q) (ln q) 1 (flat (ln q) fun j => [.int .u8 (z q j : Nat)])
  v5 : Row AnyB w0 vro n5 1 (flat n5 fun i => [.int .u8 (zr i : Nat)])
  z3 : ∀ i, zp i < 256
  z4 : ∀ q j, z q j < 256
  z5 : ∀ i, zr i < 256
  bel : Below w0.heap.size w0 W

theorem list_of (n : Nat) (f : Nat → Nat) : ∃ ps : List Nat, ps.length = n ∧ ∀ i, i < n → ps.getD i 0 = f i :=
  ⟨(List.range n).map f, by simp, fun i hi => by simp [List.getD, hi]⟩
theorem lists_of (n : Nat) (m : Nat → Nat) (f : Nat → Nat → Nat) : ∃ ps : List (List Nat), ps.length = n ∧ ∀ q, q < n → (ps.getD q []).length = m q ∧ ∀ j, j < m q → (ps.getD q []).getD j 0 = f q j :=
  ⟨(List.range n).map fun q => (List.range (m q)).map (f q), by simp, fun q hq => ⟨by simp [List.getD, hq], fun j hj => by simp [List.getD, hq, hj]⟩⟩

theorem made_two (W : World) (z1 z2 : Value) (n : Nat) (t1 t2 : TypeId) : ((W.alloc (.cells (madeCells #[z1] n) t1)).alloc (.cells (madeCells #[z2] n) t2)).rowIs W.heap.size t1 n (fun _ => z1) ∧ ((W.alloc (.cells (madeCells #[z1] n) t1)).alloc (.cells (madeCells #[z2] n) t2)).rowIs (W.heap.size + 1) t2 n (fun _ => z2) ∧ Below W.heap.size W ((W.alloc (.cells (madeCells #[z1] n) t1)).alloc (.cells (madeCells #[z2] n) t2)) := by
  have h2 := World.rowIs_made (W.alloc (.cells (madeCells #[z1] n) t1)) z2 n t2
  rw [show (W.alloc (.cells (madeCells #[z1] n) t1)).heap.size = W.heap.size + 1 by simp] at h2
  exact ⟨(W.rowIs_made z1 n t1).alloc _, h2, ((Below.refl _ W).alloc (Nat.le_refl _) _).alloc (by simp) _⟩

set_option maxHeartbeats 20000000 in
set_option maxRecDepth 100000 in
theorem partB (w0 W : World) (rb A cp n3 n4 n5 : Nat) (vpe vpa vro : Value) (zp zr : Nat → Nat) (pv : Nat → Value) (ln : Nat → Nat) (z : Nat → Nat → Nat) (L : List Rel) (d : Int) (u0 u2 u6 u7 u8 u9 u10 u11 u12 u23 u24 u25 u26 u27 u28 u29 u30 u31 u32 u33 u34 u35 u36 u37 u38 u39 u40 u41 u42 u43 u44 u45 u46 u47 u48 u49 u50 u51 u52 u53 u54 u55 u56 u57 u58 u59 u60 u61 u62 u63 u64 u65 u66 u67 u68 u69 u70 u71 u72 u73 u74 u75 u76 u77 u78 u79 u80 u81 u82 u83 u84 u85 u86 u87 u88 u89 u90 u91 u92 u93 u94 u95 u96 u97 u98 u99 u100 u101 u102 u103 u104 u105 u106 u107 u108 u109 u110 u111 u112 u113 u114 u115 u116 u117 u118 u119 u120 u121 u122 u123 u124 u125 u126 u127 u128 u129 u130 u131 u132 u133 u134 u135 u136 u137 u138 u139 u140 u141 u142 u143 u144 u145 u146 u147 u148 u149 u150 u151 u152 u153 u154 u155 u156 u157 u158 u159 u160 u161 u162 u163 u164 u165 u166 u167 u168 u169 u170 u171 u172 u173 u174 u175 u176 u177 u178 u179 u180 u181 u182 u183 u184 u185 u186 u187 u188 u189 u190 u191 u192 u193 u194 u195 u196 u197 u198 u199 u200 u201 u202 u203 u204 u205 u206 u207 u208 u209 u210 u211 u212 u213 u214 u215 u216 u217 u218 u219 u220 u221 u222 u223 u224 u225 u226 u227 u228 u229 u230 u231 u232 u233 u234 u235 u236 u237 u238 u239 u240 u241 u242 u243 u244 u245 u246 u247 u248 u249 u250 u251 u252 u253 u254 u255 u256 u257 u258 u259 u260 u261 u262 u263 u264 u265 u266 u267 u268 u269 u270 u271 u272 u273 u274 u275 u276 u277 u278 u279 u280 u281 u282 u283 u284 u285 u286 u287 u288 u289 u290 u291 u292 u293 u294 u295 u296 u297 u298 u299 u300 u301 u302 u303 u304 u305 u306 u307 u308 u309 u310 u311 u312 u313 u314 u315 u316 u317 u318 u319 u320 u321 u322 u323 u324 u325 u326 u327 u328 u329 u330 u331 u332 u333 u334 u335 u336 u337 u338 u339 u340 u341 u342 u343 u344 u345 u346 u347 u348 u349 u350 u351 u352 u353 u354 u355 u356 u357 u358 u359 u360 u361 u362 u363 u364 u365 u366 u367 u368 u369 u370 u371 u372 u373 u374 u375 u376 u377 u378 u379 u380 u381 u382 u383 u384 u385 u386 u387 u388 u389 u390 u391 u392 u393 u394 u395 u396 u397 u398 u399 u400 u401 u402 u403 u404 u405 u406 u407 u408 u409 u410 u411 u412 u413 u414 u415 u416 u417 u418 u419 u420 u421 u422 u423 u424 u425 u426 u427 u428 u429 u430 u431 u432 u433 u434 u435 u436 u437 u438 u439 u440 u441 u442 u443 u444 u445 u446 u447 u448 u449 u450 u451 u452 u453 u454 u455 u456 u457 u458 u459 u460 u461 u462 u463 u464 u465 u466 u467 u468 u469 u470 u471 u472 u473 u474 u475 u476 u477 u478 u479 u480 u481 u482 u483 u484 u485 u486 u487 u488 u489 u490 u491 u492 u493 u494 u495 u496 u497 u498 u499 u500 u501 u502 u503 u504 u505 u506 u507 u508 u509 u510 u511 u512 u513 u514 u515 u516 u517 u518 u519 u520 u521 u522 u523 u524 u525 u526 u527 u528 u529 u530 u531 u532 u533 u534 u535 u536 u537 u538 u539 u540 u541 u542 u543 u544 u545 u546 u547 u548 u549 u550 u551 u552 u553 u554 u555 u556 u557 u558 u559 u560 u561 u562 u563 u564 u565 u566 u567 u568 u569 u570 u571 u572 u573 u574 u575 u576 u577 u578 u579 u580 u581 : Value)
    (hL : L.length ≤ 32) (hcp : cp < 256) (hd : d ≠ 0) (hn3 : n3 ≤ 1024) (hn5 : n5 ≤ 1024) (hLB : LBD w0 W rb A n3 n4 n5 vpe vpa vro zp zr pv ln z L d) :
    Code.wp Ybaf.prog (tailAt 31 (Ybaf.f3.body.getD .skip)) (bodyPost Ybaf.prog Ybaf.f3 fun en w' => en = Ending.returned (Value.bool true) ∧ Below w0.heap.size w0 w')
      ⟨#[u0, .int .u8 (cp : Nat), u2, vpe, vpa, vro, u6, u7, u8, u9, u10, u11, u12, .int .i64 (L.length : Nat), .pointer (some ⟨rb, 0, none⟩), .slice (some ⟨A, 0, none⟩) L.length L.length, .slice (some ⟨(A + 1), 0, none⟩) L.length L.length, .slice (some ⟨(A + 2), 0, none⟩) L.length L.length, .slice (some ⟨(A + 3), 0, none⟩) L.length L.length, .slice (some ⟨(A + 4), 0, none⟩) L.length L.length, .slice (some ⟨(A + 5), 0, none⟩) L.length L.length, .slice (some ⟨(A + 6), 0, none⟩) L.length L.length, .int .i32 d, u23, u24, u25, u26, u27, u28, u29, u30, u31, u32, u33, u34, u35, u36, u37, u38, u39, u40, u41, u42, u43, u44, u45, u46, u47, u48, u49, u50, u51, u52, u53, u54, u55, u56, u57, u58, u59, u60, u61, u62, u63, u64, u65, u66, u67, u68, u69, u70, u71, u72, u73, u74, u75, u76, u77, u78, u79, u80, u81, u82, u83, u84, u85, u86, u87, u88, u89, u90, u91, u92, u93, u94, u95, u96, u97, u98, u99, u100, u101, u102, u103, u104, u105, u106, u107, u108, u109, u110, u111, u112, u113, u114, u115, u116, u117, u118, u119, u120, u121, u122, u123, u124, u125, u126, u127, u128, u129, u130, u131, u132, u133, u134, u135, u136, u137, u138, u139, u140, u141, u142, u143, u144, u145, u146, u147, u148, u149, u150, u151, u152, u153, u154, u155, u156, u157, u158, u159, u160, u161, u162, u163, u164, u165, u166, u167, u168, u169, u170, u171, u172, u173, u174, u175, u176, u177, u178, u179, u180, u181, u182, u183, u184, u185, u186, u187, u188, u189, u190, u191, u192, u193, u194, u195, u196, u197, u198, u199, u200, u201, u202, u203, u204, u205, u206, u207, u208, u209, u210, u211, u212, u213, u214, u215, u216, u217, u218, u219, u220, u221, u222, u223, u224, u225, u226, u227, u228, u229, u230, u231, u232, u233, u234, u235, u236, u237, u238, u239, u240, u241, u242, u243, u244, u245, u246, u247, u248, u249, u250, u251, u252, u253, u254, u255, u256, u257, u258, u259, u260, u261, u262, u263, u264, u265, u266, u267, u268, u269, u270, u271, u272, u273, u274, u275, u276, u277, u278, u279, u280, u281, u282, u283, u284, u285, u286, u287, u288, u289, u290, u291, u292, u293, u294, u295, u296, u297, u298, u299, u300, u301, u302, u303, u304, u305, u306, u307, u308, u309, u310, u311, u312, u313, u314, u315, u316, u317, u318, u319, u320, u321, u322, u323, u324, u325, u326, u327, u328, u329, u330, u331, u332, u333, u334, u335, u336, u337, u338, u339, u340, u341, u342, u343, u344, u345, u346, u347, u348, u349, u350, u351, u352, u353, u354, u355, u356, u357, u358, u359, u360, u361, u362, u363, u364, u365, u366, u367, u368, u369, u370, u371, u372, u373, u374, u375, u376, u377, u378, u379, u380, u381, u382, u383, u384, u385, u386, u387, u388, u389, u390, u391, u392, u393, u394, u395, u396, u397, u398, u399, u400, u401, u402, u403, u404, u405, u406, u407, u408, u409, u410, u411, u412, u413, u414, u415, u416, u417, u418, u419, u420, u421, u422, u423, u424, u425, u426, u427, u428, u429, u430, u431, u432, u433, u434, u435, u436, u437, u438, u439, u440, u441, u442, u443, u444, u445, u446, u447, u448, u449, u450, u451, u452, u453, u454, u455, u456, u457, u458, u459, u460, u461, u462, u463, u464, u465, u466, u467, u468, u469, u470, u471, u472, u473, u474, u475, u476, u477, u478, u479, u480, u481, u482, u483, u484, u485, u486, u487, u488, u489, u490, u491, u492, u493, u494, u495, u496, u497, u498, u499, u500, u501, u502, u503, u504, u505, u506, u507, u508, u509, u510, u511, u512, u513, u514, u515, u516, u517, u518, u519, u520, u521, u522, u523, u524, u525, u526, u527, u528, u529, u530, u531, u532, u533, u534, u535, u536, u537, u538, u539, u540, u541, u542, u543, u544, u545, u546, u547, u548, u549, u550, u551, u552, u553, u554, u555, u556, u557, u558, u559, u560, u561, u562, u563, u564, u565, u566, u567, u568, u569, u570, u571, u572, u573, u574, u575, u576, u577, u578, u579, u580, u581], []⟩ W := by
  conv => arg 2; whnf
  let Q' : Exit → Act → World → Prop := bodyPost Ybaf.prog Ybaf.f3 fun en w' => en = Ending.returned (Value.bool true) ∧ Below w0.heap.size w0 w'
  change Code.wp Ybaf.prog _ Q' _ _
  obtain ⟨ps, hpl, hpsV⟩ := list_of n3 (fun i => zp i % 7)
  subst hpl
  obtain ⟨rs, hrl, hrsV⟩ := list_of n5 (fun i => zr i % 5)
  subst hrl
  have HB : Hid (LBD w0 W rb A ps.length n4 rs.length vpe vpa vro zp zr pv ln z L d) := hLB
  have Hps : Hid (∀ i, i < ps.length → ps.getD i 0 = zp i % 7) := hpsV
  have Hrs : Hid (∀ i, i < rs.length → rs.getD i 0 = zr i % 5) := hrsV
  clear hLB hpsV hrsV
  obtain ⟨a3, c3, hv3⟩ := HB.out.v3.form
  obtain ⟨a4, c4, hv4⟩ := HB.out.v4.form
  obtain ⟨a5, c5, hv5⟩ := HB.out.v5.form
  subst hv3
  subst hv4
  subst hv5
  obtain ⟨c, hcc⟩ : ∃ c, cp % 7 = c := ⟨_, rfl⟩
  have hc : c < 7 := by omega
  have ec : (cp : Int) % 7 = (c : Int) := by omega
  clear hcc
  have M1 : ∀ w, (Instr.makeSlice 27 (.int .i64 (ps.length : Int)) (.int .i64 (ps.length : Int))).run Ybaf.prog w = .ok (.slice (some ⟨w.heap.size, 0, none⟩) ps.length ps.length) (w.alloc (.cells (madeCells #[Value.int .i64 0] ps.length) 3)) := fun w => run_make_row' 27 3 _ 8 Ybaf.underlying27 info3 rfl _ _ ps.length (by omega) (by omega) w
  have M2 : ∀ w, (Instr.makeSlice 47 (.int .i64 (ps.length : Int)) (.int .i64 (ps.length : Int))).run Ybaf.prog w = .ok (.slice (some ⟨w.heap.size, 0, none⟩) ps.length ps.length) (w.alloc (.cells (madeCells #[Value.string ⟨#[]⟩] ps.length) 9)) := fun w => run_make_row' 47 9 _ 16 Ybaf.underlying47 info9 rfl _ _ ps.length (by omega) (by omega) w
  obtain ⟨h1, h2, h3⟩ := made_two W (.int .i64 0) (.string ⟨#[]⟩) ps.length 3 9
  have H1 : Hid (((W.alloc (.cells (madeCells #[Value.int .i64 0] ps.length) 3)).alloc (.cells (madeCells #[Value.string ⟨#[]⟩] ps.length) 9)).rowIs W.heap.size 3 ps.length (fun _ => .int .i64 0)) := h1
  have H2 : Hid (((W.alloc (.cells (madeCells #[Value.int .i64 0] ps.length) 3)).alloc (.cells (madeCells #[Value.string ⟨#[]⟩] ps.length) 9)).rowIs (W.heap.size + 1) 9 ps.length (fun _ => .string ByteArray.empty)) := h2
  have H3 : Hid (Below W.heap.size W ((W.alloc (.cells (madeCells #[Value.int .i64 0] ps.length) 3)).alloc (.cells (madeCells #[Value.string ⟨#[]⟩] ps.length) 9))) := h3
  clear h1 h2 h3
  have HV3 : Hid (Row AnyB W (.slice a3 ps.length c3) ps.length 1 (flat ps.length fun i => [.int .u8 (zp i : Nat)])) := HB.out.v3.lift HB.out.bel
  go_upto_region 34 with fail
  generalize ((W.alloc (.cells (madeCells #[Value.int .i64 0] ps.length) 3)).alloc (.cells (madeCells #[Value.string ⟨#[]⟩] ps.length) 9)) = w1 at *
  clear M1 M2
  go_upto_block 2 with fail
  refine loop2 W w1 (.slice a3 ps.length c3) W.heap.size (W.heap.size + 1) ps.length zp _ _ _ _ _ _ _ _ _ _ _ _ _ _ _ _ _ _ _ _ _ _ _ _ _ _ _ _ _ _ _ _ _ _ _ _ _ _ _ _ _ _ _ _ _ _ _ _ _ _ _ _ _ _ _ _ _ _ _ _ _ _ _ _ _ _ _ _ _ _ _ _ _ _ _ _ _ _ _ _ _ _ _ _ _ _ _ _ _ _ _ _ _ _ _ _ _ _ _ _ _ _ _ _ _ _ _ _ _ _ _ _ _ _ _ _ _ _ _ _ _ _ _ _ _ _ _ _ _ _ _ _ _ _ _ _ _ _ _ _ _ _ _ _ _ _ _ _ _ _ _ _ _ _ _ _ _ _ _ _ _ _ _ _ _ _ _ _ _ _ _ _ _ _ _ _ _ _ _ _ _ _ _ _ _ _ _ _ _ _ _ _ _ _ _ _ _ _ _ _ _ _ _ _ _ _ _ _ _ _ _ _ _ _ _ _ _ _ _ _ _ _ _ _ _ _ _ _ _ _ _ _ _ _ _ _ _ _ _ _ _ _ _ _ _ _ _ _ _ _ _ _ _ _ _ _ _ _ _ _ _ _ _ _ _ _ _ _ _ _ _ _ _ _ _ _ _ _ _ _ _ _ _ _ _ _ _ _ _ _ _ _ _ _ _ _ _ _ _ _ _ _ _ _ _ _ _ _ _ _ _ _ _ _ _ _ _ _ _ _ _ _ _ _ _ _ _ _ _ _ _ _ _ _ _ _ _ _ _ _ _ _ _ _ _ _ _ _ _ _ _ _ _ _ _ _ _ _ _ _ _ _ _ _ _ _ _ _ _ _ _ _ _ _ _ _ _ _ _ _ _ _ _ _ _ _ _ _ _ _ _ _ _ _ _ _ _ _ _ _ _ _ _ _ _ _ _ _ _ _ _ _ _ _ _ _ _ _ _ _ _ _ _ _ _ _ _ _ _ _ _ _ _ _ _ _ _ _ _ _ _ _ _ _ _ _ _ _ _ _ _ _ _ _ _ _ _ _ _ _ _ _ _ _ _ _ _ _ _ _ _ _ _ _ _ _ _ _ _ _ _ _ _ _ _ _ _ _ _ _ _ _ _ _ _ _ _ _ _ _ _ _ _ _ _ _ _ _ _ _ _ _ _ _ _ _ _ _ _ _ _ _ _ _ _ _ _ _ _ _ _ _ _ _ _ _ _ _ _ _ _ _ _ _ _ _ _ _ _ _ _ _ _ _ _ _ _ _ _ _ _ _ _ _ _ _ _ _ _ _ _ _ _ _ _ _ _ _ _ hn3 (Nat.le_refl _) (Nat.lt_succ_self _) HB.out.z3 HV3 H3 H1 H2 ?_
  intro x31 x32 x222 x223 x224 x225 x226 x227 x228 x229 x230 x231 x232 x233 x234 x235 x236 x237 x238 x239 x240 x241 w2 hb2 hi2 hs2
  clear H1 H2 H3 HV3
  have HI2 : Hid (w2.rowIs W.heap.size 3 ps.length (fun i => .int .i64 (ps.getD i 0 : Nat))) := hi2.out.congr (fun i hi => by rw [Hps.out i hi])
  have HN2 : Hid (w2.rowIs (W.heap.size + 1) 9 ps.length (fun i => .string (nameOf (ps.getD i 0)))) := hs2.out.congr (fun i hi => by rw [Hps.out i hi])
  have HB2 : Hid (Below W.heap.size W w2) := hb2
  clear hi2 hs2 hb2
  generalize W.heap.size = bpi at HI2 HN2 ⊢
  obtain ⟨np, hnp⟩ : ∃ np, min n4 16 = np := ⟨_, rfl⟩
  have hnp16 : np ≤ 16 := by omega
  have hnp4 : np ≤ n4 := by omega
  have Hnp : Hid (min n4 16 = np) := hnp
  go_upto_if 245 with fail
  go_cut [33] from 242 to 245 (fun v wc => v = .int .i64 (np : Nat) ∧ wc = w2)
  case first =>
    by_cases h16 : n4 ≤ 16
    · obtain rfl : np = n4 := by omega
      go_wp2_with fail
      go_meet
      case rel => exact ⟨rfl, rfl⟩
    · obtain rfl : np = 16 := by omega
      go_wp2_with fail
      go_meet
      case rel => exact ⟨rfl, rfl⟩
  case rest =>
    obtain ⟨rfl, rfl⟩ := hcut
    clear hnp
    obtain ⟨paths, hpl, hpaV⟩ := lists_of np (fun q => min (ln q) 3) (fun q j => z q j % 5)
    subst hpl
    have Hpa : Hid (∀ q, q < paths.length → (paths.getD q []).length = min (ln q) 3 ∧ ∀ j, j < min (ln q) 3 → (paths.getD q []).getD j 0 = z q j % 5) := hpaV
    clear hpaV
    have M3 : ∀ w, (Instr.makeSlice 48 (.int .i64 (paths.length : Int)) (.int .i64 (paths.length : Int))).run Ybaf.prog w = .ok (.slice (some ⟨w.heap.size, 0, none⟩) paths.length paths.length) (w.alloc (.cells (madeCells #[Value.slice none 0 0] paths.length) 50)) := fun w => run_make_row' 48 50 _ 24 Ybaf.underlying48 info50 rfl _ _ paths.length (by omega) (by omega) w
    have M4 : ∀ w, (Instr.makeSlice 49 (.int .i64 (paths.length : Int)) (.int .i64 (paths.length : Int))).run Ybaf.prog w = .ok (.slice (some ⟨w.heap.size, 0, none⟩) paths.length paths.length) (w.alloc (.cells (madeCells #[Value.slice none 0 0] paths.length) 27)) := fun w => run_make_row' 49 27 _ 24 Ybaf.underlying49 info27 rfl _ _ paths.length (by omega) (by omega) w
    obtain ⟨h1, h2, h3⟩ := made_two wc (.slice none 0 0) (.slice none 0 0) paths.length 50 27
    have HP0 : Hid (PS wc ((wc.alloc (.cells (madeCells #[Value.slice none 0 0] paths.length) 50)).alloc (.cells (madeCells #[Value.slice none 0 0] paths.length) 27)) wc.heap.size (wc.heap.size + 1) paths.length 0 ln z (fun _ => 0) (fun _ => 0)) := ⟨h3, h1.congr (fun q _ => by simp), h2.congr (fun q _ => by simp), fun q hq => (Nat.not_lt_zero q hq).elim, fun q hq => (Nat.not_lt_zero q hq).elim⟩
    clear h1 h2 h3
    have hbw : Below w0.heap.size w0 wc := HB.out.bel.trans (HB2.out.mono HB.out.bel.size)
    have HV4 : Hid (Row AnyB wc (.slice a4 n4 c4) n4 1 (flat n4 fun q => [pv q])) := HB.out.v4.lift hbw
    have HVq : Hid (∀ q, q < n4 → Row AnyB wc (pv q) (ln q) 1 (flat (ln q) fun j => [.int .u8 (z q j : Nat)])) := fun q hq => (HB.out.vq q hq).lift hbw
    clear hbw
    go_upto_region 45 with fail
    generalize ((wc.alloc (.cells (madeCells #[Value.slice none 0 0] paths.length) 50)).alloc (.cells (madeCells #[Value.slice none 0 0] paths.length) 27)) = w3 at *
    clear M3 M4
    go_upto_block 4 with fail
    refine loop3 wc w3 (.slice a4 n4 c4) wc.heap.size (wc.heap.size + 1) paths.length n4 pv ln z _ _ _ _ _ _ _ _ _ _ _ _ _ _ _ _ _ _ _ _ _ _ _ _ _ _ _ _ _ _ _ _ _ _ _ _ _ _ _ _ _ _ _ _ _ _ _ _ _ _ _ _ _ _ _ _ _ _ _ _ _ _ _ _ _ _ _ _ _ _ _ _ _ _ _ _ _ _ _ _ _ _ _ _ _ _ _ _ _ _ _ _ _ _ _ _ _ _ _ _ _ _ _ _ _ _ _ _ _ _ _ _ _ _ _ _ _ _ _ _ _ _ _ _ _ _ _ _ _ _ _ _ _ _ _ _ _ _ _ _ _ _ _ _ _ _ _ _ _ _ _ _ _ _ _ _ _ _ _ _ _ _ _ _ _ _ _ _ _ _ _ _ _ _ _ _ _ _ _ _ _ _ _ _ _ _ _ _ _ _ _ _ _ _ _ _ _ _ _ _ _ _ _ _ _ _ _ _ _ _ _ _ _ _ _ _ _ _ _ _ _ _ _ _ _ _ _ _ _ _ _ _ _ _ _ _ _ _ _ _ _ _ _ _ _ _ _ _ _ _ _ _ _ _ _ _ _ _ _ _ _ _ _ _ _ _ _ _ _ _ _ _ _ _ _ _ _ _ _ _ _ _ _ _ _ _ _ _ _ _ _ _ _ _ _ _ _ _ _ _ _ _ _ _ _ _ _ _ _ _ _ _ _ _ _ _ _ _ _ _ _ _ _ _ _ _ _ _ _ _ _ _ _ _ _ _ _ _ _ _ _ _ _ _ _ _ _ _ _ _ _ _ _ _ _ _ _ _ _ _ _ _ _ _ _ _ _ _ _ _ _ _ _ _ _ _ _ _ _ _ _ _ _ _ _ _ _ _ _ _ _ _ _ _ _ _ _ _ _ _ _ _ _ _ _ _ _ _ _ _ _ _ _ _ _ _ _ _ _ _ _ _ _ _ _ _ _ _ _ _ _ _ _ _ _ _ _ _ _ _ _ _ _ _ _ _ _ _ _ _ _ _ _ _ _ _ _ _ _ _ _ _ _ _ _ _ _ _ _ _ _ _ _ _ _ _ _ _ _ _ _ _ _ _ _ _ _ _ _ _ _ _ _ _ _ _ _ _ _ _ _ _ _ _ _ _ _ _ _ _ _ _ _ _ _ _ _ _ _ _ _ _ _ _ _ _ _ _ _ _ _ _ _ _ _ _ _ _ _ _ _ _ _ _ _ _ _ _ _ _ _ _ _ _ _ _ _ _ _ _ _ _ _ _ _ _ _ _ _ _ _ _ _ _ _ _ _ _ _ hnp16 hnp4 (Nat.le_refl _) (Nat.lt_succ_self _) HB.out.z4 HV4 HVq HP0 ?_
    intro x36 x37 x38 x250 x251 x252 x253 x254 x255 x256 x257 x258 x259 x260 x261 x262 x263 x264 x265 x266 x267 x268 x269 x270 x271 x272 x273 x274 x275 x276 x277 x278 x279 x280 x281 x282 x283 x284 x285 x286 x287 x288 x289 x290 x291 x292 x293 x294 x295 x296 x297 x298 x299 x300 x301 x302 x303 x304 x305 w4 hP4
    clear HP0 HV4 HVq
    obtain ⟨bc, bs, hP4⟩ := hP4
    have HP4 : Hid (PS wc w4 wc.heap.size (wc.heap.size + 1) paths.length paths.length ln z bc bs) := hP4
    clear hP4
    have M5 : ∀ w, (Instr.makeSlice 27 (.int .i64 (rs.length : Int)) (.int .i64 (rs.length : Int))).run Ybaf.prog w = .ok (.slice (some ⟨w.heap.size, 0, none⟩) rs.length rs.length) (w.alloc (.cells (madeCells #[Value.int .i64 0] rs.length) 3)) := fun w => run_make_row' 27 3 _ 8 Ybaf.underlying27 info3 rfl _ _ rs.length (by omega) (by omega) w
    have M6 : ∀ w, (Instr.makeSlice 53 (.int .i64 (rs.length : Int)) (.int .i64 (rs.length : Int))).run Ybaf.prog w = .ok (.slice (some ⟨w.heap.size, 0, none⟩) rs.length rs.length) (w.alloc (.cells (madeCells #[Value.string ⟨#[]⟩] rs.length) 36)) := fun w => run_make_row' 53 36 _ 16 Ybaf.underlying53 info36 rfl _ _ rs.length (by omega) (by omega) w
    obtain ⟨h1, h2, h3⟩ := made_two w4 (.int .i64 0) (.string ⟨#[]⟩) rs.length 3 36
    have H1 : Hid (((w4.alloc (.cells (madeCells #[Value.int .i64 0] rs.length) 3)).alloc (.cells (madeCells #[Value.string ⟨#[]⟩] rs.length) 36)).rowIs w4.heap.size 3 rs.length (fun _ => .int .i64 0)) := h1
    have H2 : Hid (((w4.alloc (.cells (madeCells #[Value.int .i64 0] rs.length) 3)).alloc (.cells (madeCells #[Value.string ⟨#[]⟩] rs.length) 36)).rowIs (w4.heap.size + 1) 36 rs.length (fun _ => .string ByteArray.empty)) := h2
    have H3 : Hid (Below w4.heap.size w4 ((w4.alloc (.cells (madeCells #[Value.int .i64 0] rs.length) 3)).alloc (.cells (madeCells #[Value.string ⟨#[]⟩] rs.length) 36))) := h3
    clear h1 h2 h3
    have HBc : Hid (Below W.heap.size W w4) := HB2.out.trans (HP4.out.bel.mono HB2.out.size)
    have HV5 : Hid (Row AnyB w4 (.slice a5 rs.length c5) rs.length 1 (flat rs.length fun i => [.int .u8 (zr i : Nat)])) := HB.out.v5.lift (HB.out.bel.trans (HBc.out.mono HB.out.bel.size))
    go_upto_region 60 with fail
    generalize ((w4.alloc (.cells (madeCells #[Value.int .i64 0] rs.length) 3)).alloc (.cells (madeCells #[Value.string ⟨#[]⟩] rs.length) 36)) = w5 at *
    clear M5 M6
    go_upto_block 8 with fail
    refine loop5 w4 w5 (.slice a5 rs.length c5) w4.heap.size (w4.heap.size + 1) rs.length zr _ _ _ _ _ _ _ _ _ _ _ _ _ _ _ _ _ _ _ _ _ _ _ _ _ _ _ _ _ _ _ _ _ _ _ _ _ _ _ _ _ _ _ _ _ _ _ _ _ _ _ _ _ _ _ _ _ _ _ _ _ _ _ _ _ _ _ _ _ _ _ _ _ _ _ _ _ _ _ _ _ _ _ _ _ _ _ _ _ _ _ _ _ _ _ _ _ _ _ _ _ _ _ _ _ _ _ _ _ _ _ _ _ _ _ _ _ _ _ _ _ _ _ _ _ _ _ _ _ _ _ _ _ _ _ _ _ _ _ _ _ _ _ _ _ _ _ _ _ _ _ _ _ _ _ _ _ _ _ _ _ _ _ _ _ _ _ _ _ _ _ _ _ _ _ _ _ _ _ _ _ _ _ _ _ _ _ _ _ _ _ _ _ _ _ _ _ _ _ _ _ _ _ _ _ _ _ _ _ _ _ _ _ _ _ _ _ _ _ _ _ _ _ _ _ _ _ _ _ _ _ _ _ _ _ _ _ _ _ _ _ _ _ _ _ _ _ _ _ _ _ _ _ _ _ _ _ _ _ _ _ _ _ _ _ _ _ _ _ _ _ _ _ _ _ _ _ _ _ _ _ _ _ _ _ _ _ _ _ _ _ _ _ _ _ _ _ _ _ _ _ _ _ _ _ _ _ _ _ _ _ _ _ _ _ _ _ _ _ _ _ _ _ _ _ _ _ _ _ _ _ _ _ _ _ _ _ _ _ _ _ _ _ _ _ _ _ _ _ _ _ _ _ _ _ _ _ _ _ _ _ _ _ _ _ _ _ _ _ _ _ _ _ _ _ _ _ _ _ _ _ _ _ _ _ _ _ _ _ _ _ _ _ _ _ _ _ _ _ _ _ _ _ _ _ _ _ _ _ _ _ _ _ _ _ _ _ _ _ _ _ _ _ _ _ _ _ _ _ _ _ _ _ _ _ _ _ _ _ _ _ _ _ _ _ _ _ _ _ _ _ _ _ _ _ _ _ _ _ _ _ _ _ _ _ _ _ _ _ _ _ _ _ _ _ _ _ _ _ _ _ _ _ _ _ _ _ _ _ _ _ _ _ _ _ _ _ _ _ _ _ _ _ _ _ _ _ _ _ _ _ _ _ _ _ _ _ _ _ _ _ _ _ _ _ _ _ _ _ _ _ _ _ _ _ _ _ _ _ _ _ _ _ _ _ _ _ _ _ _ _ _ _ _ _ _ _ _ _ _ _ _ _ _ _ _ _ _ _ _ _ _ _ _ _ _ _ _ _ hn5 (Nat.le_refl _) (Nat.lt_succ_self _) HB.out.z5 HV5 H3 H1 H2 ?_
    intro x41 x42 x314 x315 x316 x317 x318 x319 x320 x321 x322 x323 x324 x325 x326 x327 x328 x329 x330 x331 x332 x333 w6 hb6 hi6 hf6
    clear H1 H2 H3 HV5
    have hLE : LE w0 w6 rb A bpi (bpi + 1) wc.heap.size (wc.heap.size + 1) w4.heap.size (w4.heap.size + 1) bs L d ps rs paths := by
      have hbc6 : Below wc.heap.size wc w6 := HP4.out.bel.trans (hb6.out.mono HP4.out.bel.size)
      have hbW6 : Below W.heap.size W w6 := HBc.out.trans (hb6.out.mono HBc.out.size)
      have hcf : w6.rowIs wc.heap.size 50 paths.length (fun q => .slice (some ⟨bc q, 0, none⟩) (paths.getD q []).length (paths.getD q []).length) := (HP4.out.cf.of_block (hb6.out.block _ HP4.out.cf.lt)).congr (fun q hq => by rw [if_pos hq, (Hpa.out q hq).1])
      have hsi : w6.rowIs (wc.heap.size + 1) 27 paths.length (fun q => .slice (some ⟨bs q, 0, none⟩) (paths.getD q []).length (paths.getD q []).length) := (HP4.out.si.of_block (hb6.out.block _ HP4.out.si.lt)).congr (fun q hq => by rw [if_pos hq, (Hpa.out q hq).1])
      have hsj : ∀ q, q < paths.length → w6.rowIs (bs q) 3 (paths.getD q []).length (fun j => .int .i64 ((paths.getD q []).getD j 0 : Nat)) := fun q hq => by
        obtain ⟨e1, e2⟩ := Hpa.out q hq
        have h1 := (HP4.out.rs q hq).2
        rw [e1]
        exact (h1.of_block (hb6.out.block _ h1.lt)).congr (fun j hj => by rw [e2 j hj])
      have hcj : ∀ q, q < paths.length → w6.rowIs (bc q) 51 (paths.getD q []).length (fun j => .string (stepOf ((paths.getD q []).getD j 0))) := fun q hq => by
        obtain ⟨e1, e2⟩ := Hpa.out q hq
        have h1 := (HP4.out.rc q hq).2
        rw [e1]
        exact (h1.of_block (hb6.out.block _ h1.lt)).congr (fun j hj => by rw [e2 j hj])
      refine ⟨HB.out.good, list_mem fun i hi => by rw [Hps.out i hi]; exact Nat.mod_lt _ (by decide), list_mem fun i hi => by rw [Hrs.out i hi]; exact Nat.mod_lt _ (by decide), fun q hq => by rw [(Hpa.out q hq).1]; omega, fun q j hq hj => by rw [(Hpa.out q hq).1] at hj; rw [(Hpa.out q hq).2 j hj]; exact Nat.mod_lt _ (by decide), HB.out.reg.keep (fun b hok hlt => ⟨hbW6.block b hlt, hok⟩) hbW6.size, fun j hj => (HB.out.arr j hj).of_block (hbW6.block _ (HB.out.arr j hj).lt), HI2.out.of_block (hbc6.block _ HI2.out.lt), HN2.out.of_block (hbc6.block _ HN2.out.lt), hi6.out.congr (fun i hi => by rw [Hrs.out i hi]), hf6.out.congr (fun i hi => by rw [Hrs.out i hi]), ?_, hsi, hsj, HB.out.bel.trans (hbW6.mono HB.out.bel.size)⟩
      refine ⟨fun q => .slice (some ⟨bc q, 0, none⟩) (paths.getD q []).length (paths.getD q []).length, row_of_is hcf, fun q hq => ?_⟩
      have h1 := row_of_is (hcj q hq)
      rw [flat_getD (paths.getD q []) (fun x => .string (stepOf x))] at h1
      exact h1
    have hK := ‹∀ (a : Act) (w : World), Code.wp Ybaf.prog _ _ a w → _›
    refine hK _ _ ?_
    exact partE w0 w6 rb A c bpi (bpi + 1) wc.heap.size (wc.heap.size + 1) w4.heap.size (w4.heap.size + 1) bs L d ps rs paths _ _ _ _ _ _ _ _ _ _ _ _ _ _ _ _ _ _ _ _ _ _ _ _ _ _ _ _ _ _ _ _ _ _ _ _ _ _ _ _ _ _ _ _ _ _ _ _ _ _ _ _ _ _ _ _ _ _ _ _ _ _ _ _ _ _ _ _ _ _ _ _ _ _ _ _ _ _ _ _ _ _ _ _ _ _ _ _ _ _ _ _ _ _ _ _ _ _ _ _ _ _ _ _ _ _ _ _ _ _ _ _ _ _ _ _ _ _ _ _ _ _ _ _ _ _ _ _ _ _ _ _ _ _ _ _ _ _ _ _ _ _ _ _ _ _ _ _ _ _ _ _ _ _ _ _ _ _ _ _ _ _ _ _ _ _ _ _ _ _ _ _ _ _ _ _ _ _ _ _ _ _ _ _ _ _ _ _ _ _ _ _ _ _ _ _ _ _ _ _ _ _ _ _ _ _ _ _ _ _ _ _ _ _ _ _ _ _ _ _ _ _ _ _ _ _ _ _ _ _ _ _ _ _ _ _ _ _ _ _ _ _ _ _ _ _ _ _ _ _ _ _ _ _ _ _ _ _ _ _ _ _ _ _ _ _ _ _ _ _ _ _ _ _ _ _ _ _ _ _ _ _ _ _ _ _ _ _ _ _ _ _ _ _ _ _ _ _ _ _ _ _ _ _ _ _ _ _ _ _ _ _ _ _ _ _ _ _ _ _ _ _ _ _ _ _ _ _ _ _ _ _ _ _ _ _ _ _ _ _ _ _ _ _ _ _ _ _ _ _ _ _ _ _ _ _ _ _ _ _ _ _ _ _ _ _ _ _ _ _ _ _ _ _ _ _ _ _ _ _ _ _ _ _ _ _ _ _ _ _ _ _ _ _ _ _ _ _ _ _ _ _ _ _ _ _ _ _ _ _ _ _ _ _ _ _ _ _ _ _ _ _ _ _ _ _ _ _ _ _ _ _ _ _ _ _ _ _ _ _ _ _ _ _ _ _ _ _ _ _ _ _ _ _ _ _ _ _ _ _ _ _ _ _ _ _ _ _ _ _ _ _ _ _ _ _ _ _ _ _ _ _ _ _ _ _ _ _ _ _ _ _ _ _ _ _ _ _ _ _ _ _ _ _ _ _ _ _ _ _ _ _ _ _ _ _ _ _ _ _ _ _ _ _ _ _ _ _ _ _ _ _ _ _ _ _ _ _ _ _ _ _ _ _ _ _ _ _ _ _ _ _ _ _ _ _ _ _ _ _ _ _ _ _ hL hc hd hn3 hn5 hnp16 hLE

end Go.Proofs.YbulkcfwsFmt
