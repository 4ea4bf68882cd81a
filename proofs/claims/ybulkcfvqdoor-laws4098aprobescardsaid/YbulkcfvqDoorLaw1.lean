import Derived.Test.YbulkcfvqDoorLaw2
namespace Go.Proofs.YbulkcfvqDoor
open Go.RowKit

set_option maxHeartbeats 20000000 in
set_option maxRecDepth 100000 in
theorem law_any (E R L : ByteArray) (hp ho hd : Bool) (mkn pn on dn kp : Nat) (w : World) (hs : E.size + R.size + L.size ≤ 4096) (h1 : mkn ≤ 255) (h2 : pn ≤ 65535) (h3 : on ≤ 65535) (h4 : dn ≤ 65535) (h5 : kp ≤ 255) (htab : Tab w) :
    Calls Ybad.prog 3 #[.agg #[.string E, .string R, .string L, .bool hp, .bool ho, .bool hd, .int .u8 mkn, .int .u16 pn, .int .u16 on, .int .u16 dn, .int .u8 kp]] w fun en w' => en = .returned (.bool true) ∧ Below w.heap.size w w' := by
  obtain ⟨mk, hmk, hMk⟩ := mk_at (mkn % 3) (by omega)
  have HMk : Hid (Mk mk) := hMk
  have hmks : mk.size ≤ 2 := hMk.1
  have HT : Hid (Tab w) := htab
  clear hMk htab
  go_enter Ybad.func3, Ybad.ntmps3
  go_upto_if 50 with fail
  have hA0 := A_start w E R L hp ho hd mkn pn on dn kp
  have HA0 := (show Hid _ from hA0)
  clear hA0
  go_cut [] (fun wr => A w (parL E R L hp ho hd mkn pn on dn kp) ⟨E, R, pickB hp (mk ++ dec pn), { data := #[] }, { data := #[] }, L⟩ wr)
  case first =>
    cases hp
    · go_wp2_with fail
      go_meet
      case rel => exact HA0.out
    · go_wp2_with fail
      refine (itoa_any pn (by omega) _ (HT.out.below HA0.out.bel)).mono ?_
      rintro en w1 ⟨rfl, hb⟩
      have hA1 := HA0.out.below hb
      have f2 := hA1.frz 2 (by omega)
      have c2 := hA1.box.2.2.1
      have hl := dec_len pn (by omega)
      have HA1 : Hid (A w (parL E R L true ho hd mkn pn on dn kp) ⟨E, R, { data := #[] }, { data := #[] }, { data := #[] }, L⟩ w1) := hA1
      clear hb hA1
      generalize dec pn = dpn at *
      go_wp2_with fail
      go_meet
      case rel => exact HA1.out.set 2 _ rfl
  case rest =>
    obtain ⟨p0, p1, p2, p3, p4, p5, p7, p8, p9, p10⟩ := hcut.pars
    have hlt := hcut.lt
    have HA : Hid (A w (parL E R L hp ho hd mkn pn on dn kp) ⟨E, R, pickB hp (mk ++ dec pn), { data := #[] }, { data := #[] }, L⟩ wc) := hcut
    clear hcut HA0
    go_upto_if 59 with fail
    go_cut [] (fun wr => A w (parL E R L hp ho hd mkn pn on dn kp) ⟨E, R, pickB hp (mk ++ dec pn), pickB ho (dec on), { data := #[] }, L⟩ wr)
    case first =>
      cases ho
      · go_wp2_with fail
        go_meet
        case rel => exact HA.out
      · go_wp2_with fail
        refine (itoa_any on (by omega) _ (HT.out.below HA.out.bel)).mono ?_
        rintro en w1 ⟨rfl, hb⟩
        have hA1 := HA.out.below hb
        have f3 := hA1.frz 3 (by omega)
        have c3 := hA1.box.2.2.2.1
        have HA1 : Hid (A w (parL E R L hp true hd mkn pn on dn kp) ⟨E, R, pickB hp (mk ++ dec pn), { data := #[] }, { data := #[] }, L⟩ w1) := hA1
        clear hb hA1
        generalize dec on = don at *
        go_wp2_with fail
        go_meet
        case rel => exact HA1.out.set 3 _ rfl
    case rest =>
      clear p0 p1 p2 p3 p4 p5 p7 p8 p9 p10 hlt HA
      obtain ⟨p0, p1, p2, p3, p4, p5, p7, p8, p9, p10⟩ := hcut.pars
      have hlt := hcut.lt
      have HA : Hid (A w (parL E R L hp ho hd mkn pn on dn kp) ⟨E, R, pickB hp (mk ++ dec pn), pickB ho (dec on), { data := #[] }, L⟩ wc) := hcut
      clear hcut
      go_upto_if 66 with fail
      go_cut [] (fun wr => A w (parL E R L hp ho hd mkn pn on dn kp) ⟨E, R, pickB hp (mk ++ dec pn), pickB ho (dec on), pickB hd (dec dn), L⟩ wr)
      case first =>
        cases hd
        · go_wp2_with fail
          go_meet
          case rel => exact HA.out
        · go_wp2_with fail
          refine (itoa_any dn (by omega) _ (HT.out.below HA.out.bel)).mono ?_
          rintro en w1 ⟨rfl, hb⟩
          have hA1 := HA.out.below hb
          have f4 := hA1.frz 4 (by omega)
          have c4 := hA1.box.2.2.2.2.1
          have HA1 : Hid (A w (parL E R L hp ho true mkn pn on dn kp) ⟨E, R, pickB hp (mk ++ dec pn), pickB ho (dec on), { data := #[] }, L⟩ w1) := hA1
          clear hb hA1
          generalize dec dn = ddn at *
          go_wp2_with fail
          go_meet
          case rel => exact HA1.out.set 4 _ rfl
      case rest =>
        have hK := ‹∀ (a : Act) (w : World), Code.wp Ybad.prog _ _ a w → _›
        refine hK _ _ ?_
        exact part2 E R L mk hp ho hd mkn pn on dn kp w wc _ _ _ _ _ _ _ _ _ _ _ _ _ _ _ _ _ _ _ _ _ _ _ _ _ _ _ _ _ _ _ _ _ _ _ _ _ _ _ _ _ _ _ _ _ _ _ _ _ _ _ _ _ _ _ _ _ _ _ _ _ _ _ _ _ _ _ _ _ _ _ _ _ _ _ _ _ _ _ _ _ _ _ _ _ _ _ _ _ _ _ _ _ _ _ _ _ _ _ _ _ _ _ _ _ _ _ _ _ _ _ _ _ _ _ _ _ _ _ _ _ _ _ _ _ _ _ _ _ _ _ _ _ _ _ _ _ _ _ _ _ _ _ _ _ _ _ _ _ _ _ _ _ _ _ _ _ _ _ _ _ _ _ _ _ _ _ _ _ _ _ _ _ _ _ _ _ _ _ _ _ _ _ _ _ _ _ _ _ _ _ _ _ _ _ _ _ _ _ _ _ _ _ _ _ _ _ _ _ _ _ _ hs h2 h3 h4 h5 hmks HMk HT hcut
end Go.Proofs.YbulkcfvqDoor
