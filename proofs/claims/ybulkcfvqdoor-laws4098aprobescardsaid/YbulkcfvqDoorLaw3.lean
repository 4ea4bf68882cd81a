import Derived.Test.YbulkcfvqDoorG
namespace Go.Proofs.YbulkcfvqDoor
open Go.RowKit

/-- What is left of the code from the statement on that begins with region k. -/
def headId : Code → Option Nat
  | .region n _ _ => some n
  | .seq a _ => headId a
  | .block _ c => headId c
  | _ => none
def tailAt (k : Nat) : Code → Code
  | .seq a b => if headId a = some k then .seq a b else tailAt k b
  | c => c

set_option maxHeartbeats 20000000 in
set_option maxRecDepth 100000 in
theorem part3 (E R L P O D mk : ByteArray) (hp ho hd : Bool) (mkn pn on dn kp gW : Nat) (w wc : World) (vg : Value) (X1 X : List Py) (a0 a3 a6 a7 a9 b11 b12 b13 b14 b15 b16 b17 b18 b19 b20 b21 b22 u23 u24 u25 u26 u27 u28 u29 u30 u31 u32 u33 u34 u35 u36 u37 u38 u39 u40 u41 u42 u43 u44 u45 u46 u47 u48 u49 u50 u51 u52 u53 u54 u55 u56 u57 u58 u59 u60 u61 u62 u63 u64 u65 u66 u67 u68 u69 u70 u71 u72 u73 u74 u75 u76 u77 u78 u79 u80 u81 u82 u83 u84 u85 u86 u87 u88 u89 u90 u91 u92 u93 u94 u95 u96 u97 u98 u99 u100 u101 u102 u103 u104 u105 u106 u107 u108 u109 u110 u111 u112 u113 u114 u115 u116 u117 u118 u119 u120 u121 u122 u123 u124 u125 u126 u127 u128 u129 u130 u131 u132 u133 u134 u135 u136 u137 u138 u139 u140 u141 u142 u143 u144 u145 u146 u147 u148 u149 u150 u151 u152 u153 u154 u155 u156 u157 u158 u159 u160 u161 u162 u163 u164 u165 u166 u167 u168 u169 u170 u171 u172 u173 u174 u175 u176 u177 u178 u179 u180 u181 u182 u183 u184 u185 u186 u187 u188 u189 u190 u191 u192 u193 u194 u195 u196 u197 u198 u199 u200 u201 u202 u203 u204 u205 u206 u207 u208 u209 u210 u211 u212 u213 u214 u215 : Value)
    (h2 : pn ≤ 65535) (h3 : on ≤ 65535) (h4 : dn ≤ 65535) (hmks : mk.size ≤ 2) (HT : Hid (Tab w)) (hl1 : X1.length ≤ 4)
    (HX : Hid (X1 ++ wantB ⟨E, R, P, O, D, L⟩ ho hd on dn ++ wantC ⟨E, R, P, O, D, L⟩ hp mk pn = X)) (hG1 : G w (parL E R L hp ho hd mkn pn on dn kp) ⟨E, R, P, O, D, L⟩ vg X gW X1 wc) :
    Code.wp Ybad.prog (tailAt 23 (Ybad.f3.body.getD .skip)) (bodyPost Ybad.prog Ybad.f3 fun en w' => en = Ending.returned (Value.bool true) ∧ Below w.heap.size w w')
      ⟨#[a0, .pointer (some ⟨w.heap.size, 0, none⟩), .bool false, a3, .string mk, .pointer (some ⟨w.heap.size + 1 + 1, 0, none⟩), a6, a7, .slice (some ⟨gW, 0, none⟩) X1.length 16, a9, vg, b11, b12, b13, b14, b15, b16, b17, b18, b19, b20, b21, b22, u23, u24, u25, u26, u27, u28, u29, u30, u31, u32, u33, u34, u35, u36, u37, u38, u39, u40, u41, u42, u43, u44, u45, u46, u47, u48, u49, u50, u51, u52, u53, u54, u55, u56, u57, u58, u59, u60, u61, u62, u63, u64, u65, u66, u67, u68, u69, u70, u71, u72, u73, u74, u75, u76, u77, u78, u79, u80, u81, u82, u83, u84, u85, u86, u87, u88, u89, u90, u91, u92, u93, u94, u95, u96, u97, u98, u99, u100, u101, u102, u103, u104, u105, u106, u107, u108, u109, u110, u111, u112, u113, u114, u115, u116, u117, u118, u119, u120, u121, u122, u123, u124, u125, u126, u127, u128, u129, u130, u131, u132, u133, u134, u135, u136, u137, u138, u139, u140, u141, u142, u143, u144, u145, u146, u147, u148, u149, u150, u151, u152, u153, u154, u155, u156, u157, u158, u159, u160, u161, u162, u163, u164, u165, u166, u167, u168, u169, u170, u171, u172, u173, u174, u175, u176, u177, u178, u179, u180, u181, u182, u183, u184, u185, u186, u187, u188, u189, u190, u191, u192, u193, u194, u195, u196, u197, u198, u199, u200, u201, u202, u203, u204, u205, u206, u207, u208, u209, u210, u211, u212, u213, u214, u215], []⟩ wc := by
  conv => arg 2; whnf
  let Q' : Exit → Act → World → Prop := bodyPost Ybad.prog Ybad.f3 fun en w' => en = Ending.returned (Value.bool true) ∧ Below w.heap.size w w'
  change Code.wp Ybad.prog _ Q' _ _
  obtain ⟨i0, hi, hz0, hz1, hz2⟩ := info_parts info25
  have hlw := hG1.a.lt
  obtain ⟨c0, c1, c2, c3, c4, c5⟩ := hG1.a.box
  obtain ⟨p0, p1, p2, p3, p4, p5, p7, p8, p9, p10⟩ := hG1.a.pars
  have HG1 : Hid (G w (parL E R L hp ho hd mkn pn on dn kp) ⟨E, R, P, O, D, L⟩ vg X gW X1 wc) := hG1
  have HT1 : Hid (Tab wc) := HT.out.below hG1.a.bel
  clear hG1
  go_upto_if 122 with fail
  go_cut [8] (fun v wr => W2 w (parL E R L hp ho hd mkn pn on dn kp) ⟨E, R, P, O, D, L⟩ vg X gW (X1 ++ wantB ⟨E, R, P, O, D, L⟩ ho hd on dn) v wr)
  case first =>
    cases hd
    · cases ho
      · skip
        go_wp2_with fail
        go_meet
        case rel => exact ⟨by simp [wantB], by simpa [wantB] using HG1.out⟩
      · skip
        go_wp2_with fail
        refine (plus_any on h3 _ HT1.out).mono ?_
        rintro en w2 ⟨rfl, hb⟩
        have hG2 := HG1.out.below hb
        have hlw2 := hG2.a.lt
        obtain ⟨d0, d1, d2, d3, d4, d5⟩ := hG2.a.box
        have hw2 := hG2.wown
        have HG2 : Hid (G w (parL E R L hp true false mkn pn on dn kp) ⟨E, R, P, O, D, L⟩ vg X gW X1 w2) := hG2
        clear hb hG2 c0 c1 c2 c3 c4 c5 p0 p1 p2 p3 p4 p5 p7 p8 p9 p10
        generalize hdo : dec (on + 1) = do1
        have Hdo : Hid (dec (on + 1) = do1) := hdo
        clear hdo
        go_wp2_with (at_builtin; refine wpList_append_fits _ rfl _ _ 29 rfl w.heap.size 27 i0 6 Ybad.underlying29 hi hz1 gW X1.length 16 (cellsP X1) rfl (((hw2.alloc _).alloc _).alloc _) ⟨w2.heap.size + 1 + 1, 0, none⟩ 2 2 (cellsP [⟨E, R, P, do1, { data := #[48] }, L⟩, ⟨E, R, P, do1, D, L⟩]) rfl rfl ?e1 (cellsP_one _) (by omega) ?_)
        case e1 => exact news2B _ _ (by simp) _ _ _ _ _ _ _ _ _ _ _ _
        intro w3 hown3 hgrow3
        have HW3 : Hid (W2 w (parL E R L hp true false mkn pn on dn kp) ⟨E, R, P, O, D, L⟩ vg X gW (X1 ++ wantB ⟨E, R, P, O, D, L⟩ true false on dn) (.slice (some ⟨gW, 0, none⟩) (X1.length + 2) 16) w3) := by
          have e1 : wantB ⟨E, R, P, O, D, L⟩ true false on dn = [⟨E, R, P, do1, { data := #[48] }, L⟩, ⟨E, R, P, do1, D, L⟩] := by simp [wantB, Hdo.out]
          rw [e1]
          exact ⟨by simp, (((HG2.out.alloc _).alloc _).alloc _).wapp (by simp) hown3 hgrow3⟩
        clear hown3 hgrow3 hw2
        go_wp2_with fail
        go_meet
        case rel => exact HW3.out
    · have hfr := HG1.out.fresh
      have hlw0 : w.heap.size < wc.heap.size := by omega
      go_wp2_with fail
      refine (plus_any dn h4 _ (HT1.out.below ((Below.refl _ _).alloc (Nat.le_refl _) _))).mono ?_
      rintro en w2 ⟨rfl, hb⟩
      have hG2 := (HG1.out.alloc _).below hb
      obtain ⟨⟨z0, z1, z2, z3, z4, z5⟩, hzf⟩ := box_after hb
      have zf := hzf 4 (by omega)
      have hlw2 := hG2.a.lt
      have hZ : wc.heap.size < w2.heap.size := World.block_lt_of_cell? _ _ z0
      have hw2 := hG2.wown
      have HG2 : Hid (G w (parL E R L hp ho true mkn pn on dn kp) ⟨E, R, P, O, D, L⟩ vg X gW X1 w2) := hG2
      generalize hdd : dec (dn + 1) = dd1
      have Hdd : Hid (dec (dn + 1) = dd1) := hdd
      have Hfr : Hid (vg.ownBlock ≠ some wc.heap.size ∧ gW ≠ wc.heap.size ∧ w.heap.size + 1 + 1 < wc.heap.size) := hfr
      have HG3 : Hid (G w (parL E R L hp ho true mkn pn on dn kp) ⟨E, R, P, O, D, L⟩ vg X gW X1 (w2.setCell ⟨wc.heap.size, 4, none⟩ (.string dd1))) := hG2.other (grownBy_set _ _ _ _) hfr.2.2 hfr.1 hfr.2.1
      clear hb hG2 c0 c1 c2 c3 c4 c5 p0 p1 p2 p3 p4 p5 p7 p8 p9 p10 hzf hdd hfr hw2
      have hw3 := HG3.out.wown
      go_wp2_with (at_builtin; refine wpList_append_fits _ rfl _ _ 29 rfl w.heap.size 27 i0 6 Ybad.underlying29 hi hz1 gW X1.length 16 (cellsP X1) rfl (hw3.alloc _) ⟨w2.heap.size, 0, none⟩ 1 1 (cellsP [⟨E, R, P, O, dd1, L⟩]) rfl rfl ?e1 (cellsP_one _) (by omega) ?_)
      case e1 => exact news1B _ _ (by simp [World.setCell]) _ _ _ _ _ _
      intro w3 hown3 hgrow3
      have hG4 : G w (parL E R L hp ho true mkn pn on dn kp) ⟨E, R, P, O, D, L⟩ vg X gW (X1 ++ [⟨E, R, P, O, dd1, L⟩]) w3 := (HG3.out.alloc _).wapp (by simp) hown3 hgrow3
      obtain ⟨p0, p1, p2, p3, p4, p5, p7, p8, p9, p10⟩ := hG4.a.pars
      obtain ⟨d0, d1, d2, d3, d4, d5⟩ := hG4.a.box
      have hlw4 := hG4.a.lt
      have HG4 : Hid (G w (parL E R L hp ho true mkn pn on dn kp) ⟨E, R, P, O, D, L⟩ vg X gW (X1 ++ [⟨E, R, P, O, dd1, L⟩]) w3) := hG4
      clear hG4 hown3 hgrow3 hw3 z0 z1 z2 z3 z4 z5 zf HG3 HG2
      cases ho
      · skip
        go_wp2_with fail
        go_meet
        case rel =>
          have e1 : wantB ⟨E, R, P, O, D, L⟩ false true on dn = [⟨E, R, P, O, dd1, L⟩] := by simp [wantB, Hdd.out]
          rw [e1]
          exact ⟨by simp, HG4.out⟩
      · skip
        have hw4 := HG4.out.wown
        generalize hX2 : X1 ++ [(⟨E, R, P, O, dd1, L⟩ : Py)] = X2 at HG4 hw4
        have hl2 : X2.length = X1.length + 1 := by rw [← hX2]; simp
        have HX2 : Hid (X1 ++ [(⟨E, R, P, O, dd1, L⟩ : Py)] = X2) := hX2
        rw [hl2] at hw4
        have Hl2 : Hid (X2.length = X1.length + 1) := hl2
        clear hX2 hl2
        go_wp2_with (at_builtin; refine wpList_append_fits _ rfl _ _ 29 rfl w.heap.size 27 i0 6 Ybad.underlying29 hi hz1 gW (X1.length + 1) 16 (cellsP X2) rfl ((hw4.alloc _).alloc _) ⟨w3.heap.size + 1, 0, none⟩ 1 1 (cellsP [⟨E, R, P, O, { data := #[] }, L⟩]) rfl rfl ?e2 (cellsP_one _) (by omega) ?_)
        case e2 => exact fun _ _ h => h
        intro w5 hown5 hgrow5
        have HW5 : Hid (W2 w (parL E R L hp true true mkn pn on dn kp) ⟨E, R, P, O, D, L⟩ vg X gW (X1 ++ wantB ⟨E, R, P, O, D, L⟩ true true on dn) (.slice (some ⟨gW, 0, none⟩) (X1.length + 1 + 1) 16) w5) := by
          have e1 : X1 ++ wantB ⟨E, R, P, O, D, L⟩ true true on dn = X2 ++ [⟨E, R, P, O, { data := #[] }, L⟩] := by rw [← HX2.out]; simp [wantB, Hdd.out]
          rw [e1]
          exact ⟨by simp [Hl2.out], ((HG4.out.alloc _).alloc _).wapp (by simp [Hl2.out]) hown5 hgrow5⟩
        clear hown5 hgrow5 hw4
        go_wp2_with fail
        go_meet
        case rel => exact HW5.out
  case rest =>
    clear c0 c1 c2 c3 c4 c5 p0 p1 p2 p3 p4 p5 p7 p8 p9 p10 hlw HG1 HT1
    obtain ⟨rfl, hG1⟩ := hcut
    have hbl := wantB_len ⟨E, R, P, O, D, L⟩ ho hd on dn
    generalize hX2 : X1 ++ wantB ⟨E, R, P, O, D, L⟩ ho hd on dn = X2 at *
    have hl2 : X2.length ≤ 6 := by rw [← hX2, List.length_append]; omega
    clear hX2 hbl hl1
    have hlw := hG1.a.lt
    have hlw0 : w.heap.size < wc.heap.size := by omega
    obtain ⟨c0, c1, c2, c3, c4, c5⟩ := hG1.a.box
    obtain ⟨p0, p1, p2, p3, p4, p5, p7, p8, p9, p10⟩ := hG1.a.pars
    have HG1 : Hid (G w (parL E R L hp ho hd mkn pn on dn kp) ⟨E, R, P, O, D, L⟩ vg X gW X2 wc) := hG1
    have HT1 : Hid (Tab wc) := HT.out.below hG1.a.bel
    clear hG1
    go_upto_if 158 with fail
    go_cut [8] (fun v wr => W2 w (parL E R L hp ho hd mkn pn on dn kp) ⟨E, R, P, O, D, L⟩ vg X gW (X2 ++ wantC ⟨E, R, P, O, D, L⟩ hp mk pn) v wr)
    case first =>
      cases hp
      · skip
        go_wp2_with fail
        go_meet
        case rel => exact ⟨by simp [wantC], by simpa [wantC] using HG1.out⟩
      · have hlwa : w.heap.size < wc.heap.size + 1 := by omega
        have hlwb : w.heap.size < wc.heap.size + 1 + 1 := by omega
        have hlwc : w.heap.size + 1 + 1 < wc.heap.size + 1 := by omega
        have hlwd : w.heap.size + 1 + 1 < wc.heap.size + 1 + 1 := by omega
        go_wp2_with fail
        refine (plus_any pn h2 _ (HT1.out.below ((((Below.refl _ _).alloc (Nat.le_refl _) _).alloc (by simp) _).alloc (by simp; omega) _))).mono ?_
        rintro en w2 ⟨rfl, hb⟩
        have hG2 := (((HG1.out.alloc _).alloc _).alloc _).below hb
        obtain ⟨⟨x0, x1, x2, x3, x4, x5⟩, ⟨y0, y1, y2, y3, y4, y5⟩, ⟨z0, z1, z2, z3, z4, z5⟩⟩ := box_after3 hb
        obtain ⟨q0, q1, q2, q3, q4, q5, q7, q8, q9, q10⟩ := hG2.a.pars
        have hZ0 : wc.heap.size < w2.heap.size := World.block_lt_of_cell? _ _ x0
        have hZ1 : wc.heap.size + 1 < w2.heap.size := World.block_lt_of_cell? _ _ y0
        have hZ2 : wc.heap.size + 1 + 1 < w2.heap.size := World.block_lt_of_cell? _ _ z0
        have hlw2 := hG2.a.lt
        have hlw3 : w.heap.size < w2.heap.size := by omega
        have hlw4 : w.heap.size < w2.heap.size + 1 := by omega
        have hZ3 : wc.heap.size < w2.heap.size + 1 := by omega
        have hZ4 : wc.heap.size + 1 < w2.heap.size + 1 := by omega
        have hZ5 : wc.heap.size + 1 + 1 < w2.heap.size + 1 := by omega
        have hw2 := hG2.wown
        have hdl := dec_len (pn + 1) (by omega)
        have HG2 : Hid (G w (parL E R L true ho hd mkn pn on dn kp) ⟨E, R, P, O, D, L⟩ vg X gW X2 w2) := hG2
        generalize hdp : dec (pn + 1) = dp1 at *
        have Hdp : Hid (dec (pn + 1) = dp1) := hdp
        clear hb hG2 c0 c1 c2 c3 c4 c5 p0 p1 p2 p3 p4 p5 p7 p8 p9 p10 hdp q2 q3 q4 q5 q7 q8 q9 q10
        go_wp2_with (at_builtin; refine wpList_append_fits _ rfl _ _ 29 rfl w.heap.size 27 i0 6 Ybad.underlying29 hi hz1 gW X2.length 16 (cellsP X2) rfl (((hw2.alloc _).alloc _).alloc _) ⟨w2.heap.size + 1 + 1, 0, none⟩ 5 5 (cellsP [⟨E, R, P, { data := #[] }, { data := #[] }, { data := #[] }⟩, ⟨E, R, P, { data := #[48] }, { data := #[48] }, { data := #[] }⟩, ⟨E, R, P, { data := #[48] }, { data := #[] }, { data := #[] }⟩, ⟨E, R, mk ++ dp1, { data := #[] }, { data := #[48] }, { data := #[] }⟩, ⟨E, R, mk ++ dp1, { data := #[] }, { data := #[] }, { data := #[] }⟩]) rfl rfl ?e3 (cellsP_one _) (by omega) ?_)
        case e3 => first | exact fun _ _ h => h | exact news5B _ _ (by simp) _ _ _ _ _ _ _ _ _ _ _ _ _ _ _ _ _ _ _ _ _ _ _ _ _ _ _ _ _ _
        intro w3 hown3 hgrow3
        have HW3 : Hid (W2 w (parL E R L true ho hd mkn pn on dn kp) ⟨E, R, P, O, D, L⟩ vg X gW (X2 ++ wantC ⟨E, R, P, O, D, L⟩ true mk pn) (.slice (some ⟨gW, 0, none⟩) (X2.length + 5) 16) w3) := by
          have e1 : wantC ⟨E, R, P, O, D, L⟩ true mk pn = [⟨E, R, P, { data := #[] }, { data := #[] }, { data := #[] }⟩, ⟨E, R, P, { data := #[48] }, { data := #[48] }, { data := #[] }⟩, ⟨E, R, P, { data := #[48] }, { data := #[] }, { data := #[] }⟩, ⟨E, R, mk ++ dp1, { data := #[] }, { data := #[48] }, { data := #[] }⟩, ⟨E, R, mk ++ dp1, { data := #[] }, { data := #[] }, { data := #[] }⟩] := by simp [wantC, Hdp.out]
          rw [e1]
          exact ⟨by simp, (((HG2.out.alloc _).alloc _).alloc _).wapp (by simp) hown3 hgrow3⟩
        clear hown3 hgrow3 hw2
        go_wp2_with fail
        go_meet
        case rel => exact HW3.out
    case rest =>
      clear c0 c1 c2 c3 c4 c5 p0 p1 p2 p3 p4 p5 p7 p8 p9 p10 hlw hlw0 HG1 HT1
      obtain ⟨hv, hG1⟩ := hcut
      rw [HX.out] at hv hG1
      have hcl := wantC_len ⟨E, R, P, O, D, L⟩ hp mk pn
      have hlX : X.length ≤ 11 := by rw [← HX.out, List.length_append]; omega
      subst hv
      obtain ⟨a, cap, rfl, hgot⟩ := own_form hG1.nown
      have hwant : ∀ j, j < X.length * 6 → wc.cell? ⟨gW, j, none⟩ = (cellsP X)[j]? := fun j hj => hG1.wown.cellAt j hj
      have Hgot : Hid (X.length = 0 ∨ ∃ g, a = some ⟨g, 0, none⟩ ∧ ∀ j, j < X.length * 6 → wc.cell? ⟨g, j, none⟩ = (cellsP X)[j]?) := hgot
      have Hwant : Hid (∀ j, j < X.length * 6 → wc.cell? ⟨gW, j, none⟩ = (cellsP X)[j]?) := hwant
      have HB : Hid (Below w.heap.size w wc) := hG1.a.bel
      clear hG1 hgot hwant HX hcl hl2
      generalize hN : X.length = N at *
      have HN : Hid (X.length = N) := hN
      clear hN
      go_wp2_with fail
      go_loopw [22] (fun i wr => ∃ k : Nat, k ≤ N ∧ i = .int .i64 k ∧ ∃ q, wr = wc.drewN q) (fun i _ => N - (intOf i).toNat)
      case atStart => exact ⟨0, Nat.zero_le _, rfl, 0, rfl⟩
      case round =>
        obtain ⟨j, hj, rfl, q, rfl⟩ := hrel
        by_cases hlt3 : j < N
        · skip
          obtain ⟨z, e0, e1, e2, e3, e4, e5⟩ := cell_at X j (by rw [HN.out]; exact hlt3)
          obtain ⟨g, rfl, hgc⟩ : ∃ g, a = some ⟨g, 0, none⟩ ∧ ∀ j, j < N * 6 → wc.cell? ⟨g, j, none⟩ = (cellsP X)[j]? := by
            rcases Hgot.out with h0 | h
            · omega
            · exact h
          have hwc := Hwant.out
          have g0 := (hgc (j * 6) (by omega)).trans e0
          have g1 := (hgc (j * 6 + 1) (by omega)).trans e1
          have g2 := (hgc (j * 6 + 2) (by omega)).trans e2
          have g3 := (hgc (j * 6 + 3) (by omega)).trans e3
          have g4 := (hgc (j * 6 + 4) (by omega)).trans e4
          have g5 := (hgc (j * 6 + 5) (by omega)).trans e5
          have v0 := (hwc (j * 6) (by omega)).trans e0
          have v1 := (hwc (j * 6 + 1) (by omega)).trans e1
          have v2 := (hwc (j * 6 + 2) (by omega)).trans e2
          have v3 := (hwc (j * 6 + 3) (by omega)).trans e3
          have v4 := (hwc (j * 6 + 4) (by omega)).trans e4
          have v5 := (hwc (j * 6 + 5) (by omega)).trans e5
          clear hwc hgc e0 e1 e2 e3 e4 e5
          go_wp2_with fail
          go_quiet (fail)
          go_wp2_with fail
          go_roundw
          case rel => exact ⟨j + 1, by omega, by go_num, _, rfl⟩
          case measure => simp [intOf]; omega
        · go_wp2_with fail
          go_ret
          exact ⟨rfl, HB.out.trans ⟨rfl, rfl, rfl, Nat.le_refl _, fun _ _ => rfl⟩⟩
end Go.Proofs.YbulkcfvqDoor
