import Derived.Test.YbulkcfvqDoorLaw3
namespace Go.Proofs.YbulkcfvqDoor
open Go.RowKit

set_option maxHeartbeats 20000000 in
set_option maxRecDepth 100000 in
theorem part2 (E R L mk : ByteArray) (hp ho hd : Bool) (mkn pn on dn kp : Nat) (w wc : World) (a0 a3 b6 b7 b8 b9 b10 b11 b12 b13 b14 b15 b16 b17 b18 b19 b20 b21 b22 u23 u24 u25 u26 u27 u28 u29 u30 u31 u32 u33 u34 u35 u36 u37 u38 u39 u40 u41 u42 u43 u44 u45 u46 u47 u48 u49 u50 u51 u52 u53 u54 u55 u56 u57 u58 u59 u60 u61 u62 u63 u64 u65 u66 u67 u68 u69 u70 u71 u72 u73 u74 u75 u76 u77 u78 u79 u80 u81 u82 u83 u84 u85 u86 u87 u88 u89 u90 u91 u92 u93 u94 u95 u96 u97 u98 u99 u100 u101 u102 u103 u104 u105 u106 u107 u108 u109 u110 u111 u112 u113 u114 u115 u116 u117 u118 u119 u120 u121 u122 u123 u124 u125 u126 u127 u128 u129 u130 u131 u132 u133 u134 u135 u136 u137 u138 u139 u140 u141 u142 u143 u144 u145 u146 u147 u148 u149 u150 u151 u152 u153 u154 u155 u156 u157 u158 u159 u160 u161 u162 u163 u164 u165 u166 u167 u168 u169 u170 u171 u172 u173 u174 u175 u176 u177 u178 u179 u180 u181 u182 u183 u184 u185 u186 u187 u188 u189 u190 u191 u192 u193 u194 u195 u196 u197 u198 u199 u200 u201 u202 u203 u204 u205 u206 u207 u208 u209 u210 u211 u212 u213 u214 u215 : Value)
    (_hs : E.size + R.size + L.size ≤ 4096) (h2 : pn ≤ 65535) (h3 : on ≤ 65535) (h4 : dn ≤ 65535) (h5 : kp ≤ 255) (hmks : mk.size ≤ 2) (HMk : Hid (Mk mk)) (HT : Hid (Tab w))
    (hcut : A w (parL E R L hp ho hd mkn pn on dn kp) ⟨E, R, pickB hp (mk ++ dec pn), pickB ho (dec on), pickB hd (dec dn), L⟩ wc) :
    Code.wp Ybad.prog (tailAt 12 (Ybad.f3.body.getD .skip)) (bodyPost Ybad.prog Ybad.f3 fun en w' => en = Ending.returned (Value.bool true) ∧ Below w.heap.size w w')
      ⟨#[a0, .pointer (some ⟨w.heap.size, 0, none⟩), .bool false, a3, .string mk, .pointer (some ⟨w.heap.size + 1 + 1, 0, none⟩), b6, b7, b8, b9, b10, b11, b12, b13, b14, b15, b16, b17, b18, b19, b20, b21, b22, u23, u24, u25, u26, u27, u28, u29, u30, u31, u32, u33, u34, u35, u36, u37, u38, u39, u40, u41, u42, u43, u44, u45, u46, u47, u48, u49, u50, u51, u52, u53, u54, u55, u56, u57, u58, u59, u60, u61, u62, u63, u64, u65, u66, u67, u68, u69, u70, u71, u72, u73, u74, u75, u76, u77, u78, u79, u80, u81, u82, u83, u84, u85, u86, u87, u88, u89, u90, u91, u92, u93, u94, u95, u96, u97, u98, u99, u100, u101, u102, u103, u104, u105, u106, u107, u108, u109, u110, u111, u112, u113, u114, u115, u116, u117, u118, u119, u120, u121, u122, u123, u124, u125, u126, u127, u128, u129, u130, u131, u132, u133, u134, u135, u136, u137, u138, u139, u140, u141, u142, u143, u144, u145, u146, u147, u148, u149, u150, u151, u152, u153, u154, u155, u156, u157, u158, u159, u160, u161, u162, u163, u164, u165, u166, u167, u168, u169, u170, u171, u172, u173, u174, u175, u176, u177, u178, u179, u180, u181, u182, u183, u184, u185, u186, u187, u188, u189, u190, u191, u192, u193, u194, u195, u196, u197, u198, u199, u200, u201, u202, u203, u204, u205, u206, u207, u208, u209, u210, u211, u212, u213, u214, u215], []⟩ wc := by
  conv => arg 2; whnf
  let Q' : Exit → Act → World → Prop := bodyPost Ybad.prog Ybad.f3 fun en w' => en = Ending.returned (Value.bool true) ∧ Below w.heap.size w w'
  change Code.wp Ybad.prog _ Q' _ _
  obtain ⟨p0, p1, p2, p3, p4, p5, p7, p8, p9, p10⟩ := hcut.pars
  have hlt := hcut.lt
  have HA : Hid (A w (parL E R L hp ho hd mkn pn on dn kp) ⟨E, R, pickB hp (mk ++ dec pn), pickB ho (dec on), pickB hd (dec dn), L⟩ wc) := hcut
  clear hcut
  obtain ⟨i0, hi, hz0, hz1, hz2⟩ := info_parts info25
  go_wp2_with (at_make; refine wpList_make_own _ rfl _ _ 29 rfl w.heap.size 27 i0 _ 6 Ybad.underlying29 hi hz0 hz1 _ _ _ (kp % 4) rfl rfl (by omega) ?b2 ?b3 ?b4 ?_)
  case b2 => rw [hz2]; omega
  case b3 => unfold maxLen; omega
  case b4 => exact HA.out.bel.size
  intro wa hownN hgrow
  have hgs := hgrow.size
  have hAa := HA.out.grown hgrow (fun g e => by cases e)
  have hltN : wc.heap.size < wa.heap.size := (hownN.lt wc.heap.size rfl).2
  clear hgrow HA p0 p1 p2 p3 p4 p5 p7 p8 p9 p10
  go_wp2_with (at_make; refine wpList_make_own _ rfl _ _ 29 rfl w.heap.size 27 i0 _ 6 Ybad.underlying29 hi hz0 hz1 _ _ _ 16 rfl rfl rfl ?d2 ?d3 ?d4 ?_)
  case d2 => rw [hz2]; omega
  case d3 => unfold maxLen; omega
  case d4 => exact hAa.bel.size
  intro wb hownW hgrow
  have hG : G w (parL E R L hp ho hd mkn pn on dn kp) ⟨E, R, pickB hp (mk ++ dec pn), pickB ho (dec on), pickB hd (dec dn), L⟩ (.slice (some ⟨wc.heap.size, 0, none⟩) (psl 0).length (kp % 4)) (psl 0) wa.heap.size (psl 0) wb :=
    ⟨hAa.grown hgrow (fun g e => by cases e), hownN.kept hgrow (.inr (by simp [Value.ownBlock])), hownW, fun g e => by cases e; exact ⟨by show w.heap.size + 1 + 1 < wc.heap.size; omega, by show wc.heap.size ≠ wa.heap.size; omega⟩, by omega⟩
  have HG : Hid (G w (parL E R L hp ho hd mkn pn on dn kp) ⟨E, R, pickB hp (mk ++ dec pn), pickB ho (dec on), pickB hd (dec dn), L⟩ (.slice (some ⟨wc.heap.size, 0, none⟩) (psl 0).length (kp % 4)) (psl 0) wa.heap.size (psl 0) wb) := hG
  clear hG hownN hownW hgrow hAa
  generalize hgN : wc.heap.size = gN at *
  generalize hgW : wa.heap.size = gW at *
  clear hgN hgW
  go_wp2_with fail
  have hk4 : kp % 4 ≤ 3 := by omega
  generalize hkk : kp % 4 = kk at *
  have ek : (kp : Int) % 4 = (kk : Int) := by omega
  rw [ek]
  clear ek hkk
  go_loopw [7, 8, 9] (fun vn vw i wr => ∃ k : Nat, k ≤ kk ∧ i = .int .i64 k ∧ vn = .slice (some ⟨gN, 0, none⟩) k kk ∧ vw = .slice (some ⟨gW, 0, none⟩) k 16 ∧ G w (parL E R L hp ho hd mkn pn on dn kp) ⟨E, R, pickB hp (mk ++ dec pn), pickB ho (dec on), pickB hd (dec dn), L⟩ (.slice (some ⟨gN, 0, none⟩) (psl k).length kk) (psl k) gW (psl k) wr) (fun _ _ i _ => kk - (intOf i).toNat)
  case atStart => exact ⟨0, Nat.zero_le _, rfl, rfl, rfl, HG.out⟩
  case round =>
    clear HG
    obtain ⟨k, hk, rfl, rfl, rfl, hG⟩ := hrel
    by_cases hlt2 : k < kk
    · skip
      have HG : Hid (G w (parL E R L hp ho hd mkn pn on dn kp) ⟨E, R, pickB hp (mk ++ dec pn), pickB ho (dec on), pickB hd (dec dn), L⟩ (.slice (some ⟨gN, 0, none⟩) (psl k).length kk) (psl k) gW (psl k) wr) := hG
      clear hG
      go_wp2_with fail
      refine (itoa_any k (by omega) _ (HT.out.below HG.out.a.bel)).mono ?_
      rintro en w1 ⟨rfl, hb⟩
      have hG1 := HG.out.below hb
      have hn1 := hG1.nown
      rw [psl_len] at hn1
      clear hb
      go_wp2_with (at_builtin; refine wpList_append_fits _ rfl _ _ 29 rfl w.heap.size 27 i0 6 Ybad.underlying29 hi hz1 gN k kk (cellsP (psl k)) rfl (hn1.alloc _) ⟨w1.heap.size, 0, none⟩ 1 1 (cellsP [⟨{ data := #[] }, dec k, { data := #[] }, { data := #[] }, { data := #[55] }, { data := #[] }⟩]) rfl rfl (news1 _ _ _ _ _ _ _) (cellsP_one _) (by omega) ?_)
      intro w2 hown2 hgrow2
      have hG2 : G w (parL E R L hp ho hd mkn pn on dn kp) ⟨E, R, pickB hp (mk ++ dec pn), pickB ho (dec on), pickB hd (dec dn), L⟩ (.slice (some ⟨gN, 0, none⟩) (k + 1) kk) (psl (k + 1)) gW (psl k) w2 := by
        rw [psl_succ]
        exact (hG1.alloc _).napp (by simp [psl_len]) hown2 hgrow2
      have HG2 : Hid (G w (parL E R L hp ho hd mkn pn on dn kp) ⟨E, R, pickB hp (mk ++ dec pn), pickB ho (dec on), pickB hd (dec dn), L⟩ (.slice (some ⟨gN, 0, none⟩) (k + 1) kk) (psl (k + 1)) gW (psl k) w2) := hG2
      clear hG2 hown2 hgrow2 hG1 hn1 HG
      go_wp2_with fail
      refine (itoa_any k (by omega) _ (HT.out.below HG2.out.a.bel)).mono ?_
      rintro en w3 ⟨rfl, hb⟩
      have hG3 := HG2.out.below hb
      have hn3 := hG3.wown
      rw [psl_len] at hn3
      clear hb HG2
      go_wp2_with (at_builtin; refine wpList_append_fits _ rfl _ _ 29 rfl w.heap.size 27 i0 6 Ybad.underlying29 hi hz1 gW k 16 (cellsP (psl k)) rfl (hn3.alloc _) ⟨w3.heap.size, 0, none⟩ 1 1 (cellsP [⟨{ data := #[] }, dec k, { data := #[] }, { data := #[] }, { data := #[55] }, { data := #[] }⟩]) rfl rfl (news1 _ _ _ _ _ _ _) (cellsP_one _) (by omega) ?_)
      intro w4 hown4 hgrow4
      have hG4 : G w (parL E R L hp ho hd mkn pn on dn kp) ⟨E, R, pickB hp (mk ++ dec pn), pickB ho (dec on), pickB hd (dec dn), L⟩ (.slice (some ⟨gN, 0, none⟩) (psl (k + 1)).length kk) (psl (k + 1)) gW (psl (k + 1)) w4 := by
        have := (hG3.alloc _).wapp (by simp [psl_len]) hown4 hgrow4
        rw [← psl_succ] at this
        rw [psl_len]
        exact this
      have HG4 : Hid (G w (parL E R L hp ho hd mkn pn on dn kp) ⟨E, R, pickB hp (mk ++ dec pn), pickB ho (dec on), pickB hd (dec dn), L⟩ (.slice (some ⟨gN, 0, none⟩) (psl (k + 1)).length kk) (psl (k + 1)) gW (psl (k + 1)) w4) := hG4
      clear hG4 hown4 hgrow4 hG3 hn3
      go_wp2_with fail
      go_roundw
      case rel => exact ⟨k + 1, by omega, by go_num, rfl, rfl, HG4.out⟩
      case measure => simp [intOf]; omega
    · obtain rfl : k = kk := by omega
      have hps : (psl k).length ≤ 1000 := by rw [psl_len]; omega
      obtain ⟨c0, c1, c2, c3, c4, c5⟩ := hG.a.box
      have hlw := hG.a.lt
      have z1 : (pickB hp (mk ++ dec pn)).size ≤ 4096 := by
        have := dec_len pn (by omega)
        cases hp
        · show 0 ≤ 4096; omega
        · show (mk ++ dec pn).size ≤ 4096; rw [ByteArray.size_append]; omega
      have z2 : (pickB ho (dec on)).size ≤ 4096 := by
        have := dec_len on (by omega)
        cases ho
        · show 0 ≤ 4096; omega
        · show (dec on).size ≤ 4096; omega
      have z3 : (pickB hd (dec dn)).size ≤ 4096 := by
        have := dec_len dn (by omega)
        cases hd
        · show 0 ≤ 4096; omega
        · show (dec dn).size ≤ 4096; omega
      have HG : Hid (G w (parL E R L hp ho hd mkn pn on dn kp) ⟨E, R, pickB hp (mk ++ dec pn), pickB ho (dec on), pickB hd (dec dn), L⟩ (.slice (some ⟨gN, 0, none⟩) k k) (psl k) gW (psl k) wr) := by
        have := hG
        rw [psl_len] at this
        exact this
      clear hG
      generalize hP : pickB hp (mk ++ dec pn) = P at *
      generalize hO : pickB ho (dec on) = O at *
      generalize hD : pickB hd (dec dn) = D at *
      have HP : Hid (pickB hp (mk ++ dec pn) = P) := hP
      have HO : Hid (pickB ho (dec on) = O) := hO
      have HD : Hid (pickB hd (dec dn) = D) := hD
      clear hP hO hD
      go_wp2_with fail
      refine (near_any _ w.heap.size (psl k) E R P O D L _ HG.out.nown HG.out.size hps z1 z2 z3).mono ?_
      rintro en w1 ⟨vg, rfl, hN⟩
      obtain ⟨di, oi, n1, n2, k1, k2, k3, hG1⟩ := HG.out.near hN
      rw [segB_want HO.out HD.out k1 k2, segC_want HMk.out HP.out k3] at hG1
      clear hN HG c0 c1 c2 c3 c4 c5 k1 k2 k3 z1 z2 z3 hlw
      generalize hX : psl k ++ segA ⟨E, R, P, O, D, L⟩ ++ wantB ⟨E, R, P, O, D, L⟩ ho hd on dn ++ wantC ⟨E, R, P, O, D, L⟩ hp mk pn = X at hG1
      have HX : Hid (psl k ++ segA ⟨E, R, P, O, D, L⟩ ++ wantB ⟨E, R, P, O, D, L⟩ ho hd on dn ++ wantC ⟨E, R, P, O, D, L⟩ hp mk pn = X) := hX
      have HW : Hid (W2 w (parL E R L hp ho hd mkn pn on dn kp) ⟨E, R, P, O, D, L⟩ vg X gW (psl k) (.slice (some ⟨gW, 0, none⟩) k 16) w1) := ⟨by rw [psl_len], hG1⟩
      have hlw := hG1.a.lt
      obtain ⟨c0, c1, c2, c3, c4, c5⟩ := hG1.a.box
      clear hG1 hX
      go_upto_region 21 with fail
      go_cut [116] (fun t wr => .bool (anyB P O D L) = t ∧ w1 = wr)
      case first =>
        go_wp2_with fail
        all_goals
          go_meet
          case rel => exact ⟨by simp [anyB, *], rfl⟩
      case rest =>
        obtain ⟨q1, q2⟩ := hcut
        subst q1
        subst q2
        go_upto_if 116 with fail
        go_cut [8] (fun v wr => W2 w (parL E R L hp ho hd mkn pn on dn kp) ⟨E, R, P, O, D, L⟩ vg X gW (psl k ++ segA ⟨E, R, P, O, D, L⟩) v wr)
        case first =>
          cases hA : anyB P O D L
          · go_wp2_with fail
            go_meet
            case rel =>
              have e1 : psl k ++ segA ⟨E, R, P, O, D, L⟩ = psl k := by simp [segA, hA]
              rw [e1]
              exact HW.out
          · have hw1 := HW.out.2.wown
            rw [psl_len] at hw1
            go_wp2_with (at_builtin; refine wpList_append_fits _ rfl _ _ 29 rfl w.heap.size 27 i0 6 Ybad.underlying29 hi hz1 gW k 16 (cellsP (psl k)) rfl (hw1.alloc _) ⟨w1.heap.size, 0, none⟩ 1 1 (cellsP [⟨E, R, P, O, D, L⟩]) rfl rfl (news1 _ _ _ _ _ _ _) (cellsP_one _) (by omega) ?_)
            intro w2 hown2 hgrow2
            have HW2 : Hid (W2 w (parL E R L hp ho hd mkn pn on dn kp) ⟨E, R, P, O, D, L⟩ vg X gW (psl k ++ segA ⟨E, R, P, O, D, L⟩) (.slice (some ⟨gW, 0, none⟩) (k + 1) 16) w2) := by
              have e1 : segA ⟨E, R, P, O, D, L⟩ = [⟨E, R, P, O, D, L⟩] := by simp [segA, hA]
              rw [e1]
              exact ⟨by simp [psl_len], (HW.out.2.alloc _).wapp (by simp [psl_len]) hown2 hgrow2⟩
            clear hown2 hgrow2 hw1
            go_wp2_with fail
            go_meet
            case rel => exact HW2.out
        case rest =>
          obtain ⟨rfl, hG1⟩ := hcut
          have hxl := segA_len ⟨E, R, P, O, D, L⟩
          have hl1 : (psl k ++ segA ⟨E, R, P, O, D, L⟩).length ≤ 4 := by rw [List.length_append, psl_len]; omega
          have hK := ‹∀ (a : Act) (w : World), Code.wp Ybad.prog _ _ a w → _›
          refine hK _ _ ?_
          exact part3 E R L P O D mk hp ho hd mkn pn on dn kp gW w wc vg _ X _ _ _ _ _ _ _ _ _ _ _ _ _ _ _ _ _ _ _ _ _ _ _ _ _ _ _ _ _ _ _ _ _ _ _ _ _ _ _ _ _ _ _ _ _ _ _ _ _ _ _ _ _ _ _ _ _ _ _ _ _ _ _ _ _ _ _ _ _ _ _ _ _ _ _ _ _ _ _ _ _ _ _ _ _ _ _ _ _ _ _ _ _ _ _ _ _ _ _ _ _ _ _ _ _ _ _ _ _ _ _ _ _ _ _ _ _ _ _ _ _ _ _ _ _ _ _ _ _ _ _ _ _ _ _ _ _ _ _ _ _ _ _ _ _ _ _ _ _ _ _ _ _ _ _ _ _ _ _ _ _ _ _ _ _ _ _ _ _ _ _ _ _ _ _ _ _ _ _ _ _ _ _ _ _ _ _ _ _ _ _ _ _ _ _ _ _ _ _ _ _ _ _ _ _ _ _ _ _ _ h2 h3 h4 hmks HT hl1 HX hG1
end Go.Proofs.YbulkcfvqDoor
