import Derived.Test.YbulkcfwsFmtKinR
import Derived.Deep.CutBlock
import Derived.Deep.DeepCutAuto
import Derived.Deep.RegionHeld3
import Derived.Deep.AppendLies
import Derived.Deep.DrawnRows
import Derived.BigRegion
namespace Go.Proofs.YbulkcfwsFmt
open Go.RowKit

theorem step_eq3 (s : Nat) (hs : s < 5) : ((stepOf s).toList == [97, 100, 117, 108, 116, 45, 99, 104, 105, 108, 100]) = (s == 3) := by
  rcases lt5 hs with rfl | rfl | rfl | rfl | rfl <;> decide +kernel

theorem Reg.self {ok : Nat → Prop} {w : World} {rb : Nat} {L : List Rel} (h : Reg ok w rb L) : Reg (· < w.heap.size) w rb L :=
  h.keep (fun _ _ hlt => ⟨rfl, hlt⟩) (Nat.le_refl _)

theorem kin_start (p : Nat) (w : World) : Kins (w.heap.size ≤ ·) (w.alloc (.cells #[.string (nameOf p), .slice none 0 0] 115)) (.slice (some ⟨w.heap.size, 0, none⟩) (1 : Nat) 1) [(p, [])] := by
  refine ⟨fun _ => .slice none (0 : Nat) 0, ⟨rfl, _, 1, rfl, Nat.le_refl _, .inr ⟨w.heap.size, 0, rfl, by simp, by simp, fun j u hj => ?_⟩⟩, fun j hj => ?_⟩
  · have hj2 : j < 2 := (List.getElem?_eq_some_iff.1 hj).1
    obtain rfl | rfl : j = 0 ∨ j = 1 := by omega
    · simp [flat] at hj ⊢
      exact hj
    · simp [flat] at hj ⊢
      exact hj
  · obtain rfl : j = 0 := by simpa using hj
    exact steps_nil _ _

/-- Inside the second loop: the kinsman's box, and the row that is being made. -/
structure KI (C : Nat) (w1 : World) (bx : Nat) (n2 : ByteArray) (sk : Value) (W : World) (v : Value) (acc : List (Nat × List Nat)) : Prop where
  bel : Below w1.heap.size w1 W
  next : Next C w1.heap.size W v acc
  box0 : W.cell? ⟨bx, 0, none⟩ = some (.string n2)
  box1 : W.cell? ⟨bx, 1, none⟩ = some sk
  lt : bx < W.heap.size
  ne : some bx ≠ v.ownBlock

theorem KI.below {C : Nat} {w1 : World} {bx : Nat} {n2 : ByteArray} {sk : Value} {W W' : World} {v : Value} {acc : List (Nat × List Nat)} (h : KI C w1 bx n2 sk W v acc) (hb : Below W.heap.size W W') : KI C w1 bx n2 sk W' v acc :=
  ⟨h.bel.trans (hb.mono h.bel.size), h.next.below hb, (hb.cell h.lt).trans h.box0, (hb.cell h.lt).trans h.box1, Nat.lt_of_lt_of_le h.lt hb.size, h.ne⟩

theorem KI.alloc {C : Nat} {w1 : World} {bx : Nat} {n2 : ByteArray} {sk : Value} {W : World} {v : Value} {acc : List (Nat × List Nat)} (h : KI C w1 bx n2 sk W v acc) (o : Obj) : KI C w1 bx n2 sk (W.alloc o) v acc :=
  h.below ((Below.refl _ W).alloc (Nat.le_refl _) o)

theorem KI.drew {C : Nat} {w1 : World} {bx : Nat} {n2 : ByteArray} {sk : Value} {W : World} {v : Value} {acc : List (Nat × List Nat)} (h : KI C w1 bx n2 sk W v acc) : KI C w1 bx n2 sk W.drew v acc :=
  h.below (Below.refl _ W).drew

theorem kinStep_snoc (L : List Rel) (s : Nat) (K : List (Nat × List Nat)) (k : Nat) (hk : k < K.length) : kinStep L s (K.take (k + 1)) = kinStep L s (K.take k) ++ kin1 L s (K.getD k default) := by
  unfold kinStep
  rw [List.take_succ_eq_append_getElem hk, List.flatMap_append]
  simp [List.getD, List.getElem?_eq_getElem hk]

theorem news_two (w : World) (a b : Value) (t : TypeId) : ∀ j u, [a, b][j]? = some u → (w.alloc (.cells #[a, b] t)).cell? ((⟨w.heap.size, 0, none⟩ : Addr).add j) = some u :=
  World.news_of_block (cs := #[a, b]) (t := t) (fr := (0, 0)) (heap_alloc_new w _)

theorem one_two {s : ByteArray} {v : Value} (h : v.oneCell' = true) : ∀ u ∈ [.string s, v], u.oneCell' = true := by
  intro u hu
  simp only [List.mem_cons, List.mem_nil_iff, or_false] at hu
  rcases hu with rfl | rfl
  · rfl
  · exact h

set_option maxRecDepth 100000 in
set_option maxHeartbeats 4000000 in
theorem kin_any {ok ok' : Nat → Prop} (rb p : Nat) (L : List Rel) (d : Int) (pv : Value) (path : List Nat) (w : World) (h : Reg ok w rb L) (hp : p < 7)
    (hpv : Row ok' w pv path.length 1 (path.map fun s => .string (stepOf s))) (hpl : path.length ≤ 3) (hps : ∀ s ∈ path, s < 5) :
    Calls Ybaf.prog 49 #[.pointer (some ⟨rb, 0, none⟩), .string (nameOf p), pv, .int .i32 d] w fun e w' => (∃ v', e = .returned v' ∧ Kins (w.heap.size ≤ ·) w' v' (kinL L p path)) ∧ Below w.heap.size w w' := by
  have H : Hid (Reg (· < w.heap.size) w rb L) := h.self
  have HP : Hid (Row ok' w pv path.length 1 (path.map fun s => .string (stepOf s))) := hpv
  have hlen := h.len
  have HG : Hid (∀ i, i < L.length → (L.getD i r0).ok) := h.good
  obtain ⟨pa, pc, rfl⟩ := hpv.form
  clear h hpv
  have HS := kin_start p w
  obtain ⟨i0, hi0, hz0, hz1, hz2⟩ := info_parts info115
  generalize nameOf p = np at *
  go_enter Ybaf.func49, Ybaf.ntmps49
  go_wp2_with fail
  go_loopw [9, 26] (fun v i wr => ∃ k : Nat, k ≤ path.length ∧ i = .int .i64 k ∧ Hid (Kins (w.heap.size ≤ ·) wr v (kinL L p (path.take k))) ∧ Below w.heap.size w wr) (fun _ i _ => path.length - (intOf i).toNat)
  case atStart =>
    refine ⟨0, Nat.zero_le _, rfl, HS, (Below.refl _ w).alloc (Nat.le_refl _) _⟩
  case round =>
    obtain ⟨k, hk, rfl, hkin, hbl⟩ := hrel
    by_cases hlt : k < path.length
    · obtain ⟨pb, poff, pcap, hpe, -, hpb, hpc⟩ := HP.out.cell (by omega)
      simp only [Value.slice.injEq, true_and] at hpe
      obtain ⟨rfl, rfl⟩ := hpe
      have hcell : wr.cell? ⟨pb, poff + k, none⟩ = some (.string (stepOf path[k])) := (hbl.cell (p := ⟨pb, poff + k, none⟩) hpb).trans (hpc k _ (by rw [List.getElem?_map, List.getElem?_eq_getElem hlt]; rfl))
      have hs5 := hps _ (List.getElem_mem hlt)
      have Htk : Hid (path.take (k + 1) = path.take k ++ [path[k]]) := List.take_succ_eq_append_getElem hlt
      obtain ⟨hK1, hK2⟩ := kinL_take L HG.out hlen p hp path k (by omega)
      have HK1 : Hid (∀ e ∈ kinL L p (path.take k), ChOk L 3 e) := hK1
      have HB : Hid (Below w.heap.size w wr) := hbl
      obtain ⟨sv, hrow, hst⟩ := hkin.out
      obtain ⟨ka, kc, rfl⟩ := hrow.form
      have HR : Hid (Row (· < wr.heap.size) wr (.slice ka (kinL L p (path.take k)).length kc) (kinL L p (path.take k)).length 2 (flat (kinL L p (path.take k)).length fun j => [.string (nameOf ((kinL L p (path.take k)).getD j default).1), sv j])) := hrow.mono (fun _ _ hlt => hlt)
      have HST : Hid (∀ j, j < (kinL L p (path.take k)).length → Steps (fun b => w.heap.size ≤ b ∧ b < wr.heap.size) wr (sv j) ((kinL L p (path.take k)).getD j default).2) := fun j hj => (hst j hj).keep (fun _ hok hlt => ⟨rfl, hok, hlt⟩) (Nat.le_refl _)
      clear hrow hst hbl hpc hK1 hkin
      generalize hKK : kinL L p (path.take k) = K at *
      have HKK : Hid (kinL L p (path.take k) = K) := hKK
      clear hKK
      generalize path[k] = s at *
      have hq := step_eq3 s hs5
      generalize hsn : stepOf s = sn at *
      have Hsn : Hid (stepOf s = sn) := hsn
      clear hsn
      obtain ⟨w1, rfl⟩ : ∃ w1 : World, w1 = wr := ⟨_, rfl⟩
      go_wp2_with fail
      go_loopw [12, 32] (fun v i wr => ∃ k2 : Nat, k2 ≤ K.length ∧ i = .int .i64 k2 ∧ Hid (Next w.heap.size w1.heap.size wr v (kinStep L s (K.take k2))) ∧ Below w1.heap.size w1 wr) (fun _ i _ => K.length - (intOf i).toNat)
      case atStart =>
        exact ⟨0, Nat.zero_le _, rfl, next_nil _ _ _, Below.refl _ _⟩
      case round =>
        obtain ⟨k2, hk2, rfl, hnext, hbl1⟩ := hrel
        by_cases hlt2 : k2 < K.length
        · obtain ⟨kb, koff, kcap, hke, hkb, -, hkc⟩ := HR.out.cell (by omega)
          simp only [Value.slice.injEq, true_and] at hke
          obtain ⟨rfl, rfl⟩ := hke
          have y0 : wr.cell? ⟨kb, koff + k2 * 2, none⟩ = some (.string (nameOf (K.getD k2 default).1)) := (hbl1.cell (p := ⟨kb, koff + k2 * 2, none⟩) hkb).trans (hkc (k2 * 2 + 0) _ (by rw [flat_get (m := 2) (fun _ _ => rfl) hlt2 (by decide)]; rfl))
          have y1 : wr.cell? ⟨kb, koff + k2 * 2 + 1, none⟩ = some (sv k2) := (hbl1.cell (p := ⟨kb, koff + k2 * 2 + 1, none⟩) hkb).trans (hkc (k2 * 2 + 1) _ (by rw [flat_get (m := 2) (fun _ _ => rfl) hlt2 (by decide)]; rfl))
          have Hsnoc : Hid (kinStep L s (K.take (k2 + 1)) = kinStep L s (K.take k2) ++ kin1 L s (K.getD k2 default)) := kinStep_snoc L s K k2 hlt2
          have hch : ChOk L 3 (K.getD k2 default) := HK1.out _ (by simp [List.getD, List.getElem?_eq_getElem hlt2])
          have hacc : (kinStep L s (K.take k2)).length ≤ 16777216 := by
            have := kinStep_len L hlen s (K.take k2)
            have hl : (K.take k2).length ≤ K.length := by simp; omega
            omega
          have Hsk : Hid (Steps (fun b => w.heap.size ≤ b ∧ b < w1.heap.size) w1 (sv k2) (K.getD k2 default).2) := HST.out k2 hlt2
          generalize kinStep L s (K.take k2) = acc at *
          generalize K.getD k2 default = e2 at *
          obtain ⟨p2, is⟩ := e2
          obtain ⟨hp2, his, hisl⟩ := hch
          simp only at hp2 his hisl y0 y1 Hsk
          have His : Hid (∀ i ∈ is, i < L.length) := his
          generalize sv k2 = sk at *
          obtain ⟨ska, skc, rfl⟩ : ∃ a c, sk = .slice a is.length c := by
            obtain ⟨sv', hr', -⟩ := Hsk.out
            exact hr'.form
          have HF : Hid (∀ W, Below w1.heap.size w1 W → Calls Ybaf.prog 38 #[.pointer (some ⟨rb, 0, none⟩), .string (nameOf p2)] W fun e w' => (∃ v', e = .returned v' ∧ Ints (· < w.heap.size) W v' (ofNats (fromIdx L p2))) ∧ w' = W) := fun W hW => from_any rb p2 L W (H.out.below (HB.out.trans (hW.mono HB.out.size))) hp2
          have HT : Hid (∀ W, Below w1.heap.size w1 W → Calls Ybaf.prog 23 #[.pointer (some ⟨rb, 0, none⟩), .string (nameOf p2)] W fun e w' => (∃ v', e = .returned v' ∧ Ints (· < w.heap.size) W v' (ofNats (toIdx L p2))) ∧ w' = W) := fun W hW => to_any rb p2 L W (H.out.below (HB.out.trans (hW.mono HB.out.size))) hp2
          have HA : Hid (∀ W, Below w1.heap.size w1 W → Calls Ybaf.prog 59 #[.pointer (some ⟨rb, 0, none⟩), .string (nameOf p2), .int .i32 d] W fun e w' => e = .returned (.bool true) ∧ Below W.heap.size W w') := fun W hW => adult_any rb p2 L d W (H.out.below (HB.out.trans (hW.mono HB.out.size))) hp2
          generalize nameOf p2 = n2 at *
          have hKI : Hid (KI w.heap.size w1 wr.heap.size n2 (.slice ska is.length skc) (wr.alloc (.cells #[.string n2, .slice ska is.length skc] 115)) u12 acc) :=
            ⟨hbl1.alloc hbl1.size _, hnext.out.below ((Below.refl _ _).alloc (Nat.le_refl _) _), by simp, by simp, by simp, fun e => by have := (hnext.out.lt e.symm).2; omega⟩
          clear hkc his hbl1 hnext hkb
          go_upto_region 9 with fail
          go_cut [45] (fun v wc => v = .bool false ∧ KI w.heap.size w1 wr.heap.size n2 (.slice ska is.length skc) wc u12 acc)
          case first =>
            cases h3 : (s == 3)
            · rw [h3] at hq
              go_wp2_with fail
              go_meet
              case rel => exact ⟨rfl, hKI.out⟩
            · rw [h3] at hq
              go_wp2_with fail
              refine (HA.out _ hKI.out.bel).mono ?_
              rintro e w2 ⟨rfl, hb2⟩
              have HKI : Hid (KI w.heap.size w1 wr.heap.size n2 (.slice ska is.length skc) w2 u12 acc) := hKI.out.below hb2
              clear hb2
              go_wp2_with fail
              go_meet
              case rel => exact ⟨rfl, HKI.out⟩
          case rest =>
            obtain ⟨rfl, hKc⟩ := hcut
            have HKc : Hid (KI w.heap.size w1 wr.heap.size n2 (.slice ska is.length skc) wc u12 acc) := hKc
            have c0 := hKc.box0
            have hbx := hKc.lt
            clear hKc hKI HA y0 y1
            generalize wr.heap.size = bx at *
            go_wp2_with fail
            refine (HF.out _ HKc.out.bel).mono ?_
            rintro e w2 ⟨⟨v49, rfl, hI⟩, rfl⟩
            have hw2 := HB.out.trans (HKc.out.bel.mono HB.out.size)
            have HI : Hid (∀ W, Below w.heap.size w W → Ints (· < w.heap.size) W v49 (ofNats (fromIdx L p2))) := fun W hW => Row.move hI (fun b hb => (hW.block b hb).trans (hw2.block b hb).symm) hW.size
            obtain ⟨va, vc, rfl⟩ := Row.form hI
            clear hI hw2
            rw [show (ofNats (fromIdx L p2)).length = (fromIdx L p2).length by simp [ofNats]] at *
            have hfl : (fromIdx L p2).length ≤ 32 := Nat.le_trans (fromIdx_len L p2) hlen
            go_wp2_with fail
            go_loopw [12, 51] (fun v i wr => ∃ j : Nat, j ≤ (fromIdx L p2).length ∧ i = .int .i64 j ∧ Hid (KI w.heap.size w1 bx n2 (.slice ska is.length skc) wr v (acc ++ ((fromIdx L p2).take j).flatMap (famOut L s false is)))) (fun _ i _ => (fromIdx L p2).length - (intOf i).toNat)
            case atStart => exact ⟨0, Nat.zero_le _, rfl, by simpa using HKc⟩
            case round =>
              obtain ⟨j, hj, rfl, hKj⟩ := hrel
              by_cases hltj : j < (fromIdx L p2).length
              · obtain ⟨ib, ioff, icap, hie, hib, -, hic⟩ := Row.cell (HI.out wr (HB.out.trans (hKj.out.bel.mono HB.out.size))) (by simp [ofNats]; omega)
                simp only [Value.slice.injEq] at hie
                obtain ⟨rfl, -, rfl⟩ := hie
                have hcell : wr.cell? ⟨ib, ioff + j, none⟩ = some (.int .i64 ((fromIdx L p2)[j] : Nat)) := hic j _ (by simp [ofNats, List.getElem?_eq_getElem hltj])
                have Htk2 : Hid (acc ++ ((fromIdx L p2).take (j + 1)).flatMap (famOut L s false is) = (acc ++ ((fromIdx L p2).take j).flatMap (famOut L s false is)) ++ famOut L s false is (fromIdx L p2)[j]) := by
                  show _ = _
                  rw [List.take_succ_eq_append_getElem hltj, List.flatMap_append]
                  simp
                have hi := fromIdx_lt L p2 _ (List.getElem_mem hltj)
                have haccl : (acc ++ ((fromIdx L p2).take j).flatMap (famOut L s false is)).length ≤ 16777300 := by
                  rw [List.length_append]
                  have h1 := flatMap_len_le ((fromIdx L p2).take j) (famOut L s false is) 1 (fun _ _ => famOut_len ..)
                  have h2 : ((fromIdx L p2).take j).length ≤ 32 := by
                    have := fromIdx_len L p2
                    simp
                    omega
                  omega
                generalize acc ++ ((fromIdx L p2).take j).flatMap (famOut L s false is) = accj at *
                generalize (fromIdx L p2)[j] = i at *
                have hR : Reg (· < w.heap.size) wr rb L := H.out.below (HB.out.trans (hKj.out.bel.mono HB.out.size))
                obtain ⟨rb2, roff, rcap, hc2, -, hb2, hcs⟩ := hR.cells hi
                have hltr := hR.ltr
                obtain ⟨hty, hfr, hto, hro, hti⟩ := HG.out i hi
                have Hf : Hid (famOut L s false is i = if ((L.getD i r0).ty == 2 && isB (L.getD i r0).ti s false) = true then [((L.getD i r0).to, is ++ [i])] else []) := rfl
                clear hR hic
                generalize L.getD i r0 = x at *
                have x0 := hcs 0 _ rfl
                have x1 := hcs 1 _ rfl
                have x2 := hcs 2 _ rfl
                have x3 := hcs 3 _ rfl
                have x4 := hcs 4 _ rfl
                have x5 := hcs 5 _ rfl
                have x6 := hcs 6 _ rfl
                have x7 := hcs 7 _ rfl
                have x8 := hcs 8 _ rfl
                have x9 := hcs 9 _ rfl
                simp only [← Nat.add_assoc, Nat.add_zero] at x0 x1 x2 x3 x4 x5 x6 x7 x8 x9
                have ht2 := (type_eq x.ty hty).2.2
                have HS60 : Hid (∀ W, Calls Ybaf.prog 60 #[.string (tieOf x.ti), .string sn, .bool false] W fun e w' => e = .returned (.bool (isB x.ti s false)) ∧ w' = W) := fun W => Hsn.out ▸ isStep_any x.ti s false hti hs5 W
                have Hnx : Hid (∃ nx, nx = nameOf x.to) := ⟨_, rfl⟩
                clear hcs
                generalize idOf i = s0 at *
                generalize typeOf x.ty = s1 at *
                generalize tieOf x.ti = s9 at *
                generalize roleOf x.ro = s6 at *
                generalize hs2 : nameOf x.fr = s2 at *
                generalize hs3 : nameOf x.to = s3 at *
                have Hs2 : Hid (nameOf x.fr = s2) := hs2
                have Hs3 : Hid (nameOf x.to = s3) := hs3
                clear hs2 hs3 Hnx
                have HKJ : Hid (KI w.heap.size w1 bx n2 (.slice ska is.length skc) (wr.alloc (.cells #[.string s0, .string s1, .string s2, .string s3, .int .i32 x.st, .int .i32 x.en, .string s6, .int .i64 0, .pointer none, .string s9] 43)) u12 accj) := hKj.out.alloc _
                cases hty2 : (x.ty == 2)
                · rw [hty2] at ht2
                  have HKJ' : Hid (KI w.heap.size w1 bx n2 (.slice ska is.length skc) (wr.alloc (.cells #[.string s0, .string s1, .string s2, .string s3, .int .i32 x.st, .int .i32 x.en, .string s6, .int .i64 0, .pointer none, .string s9] 43)) u12 (acc ++ ((fromIdx L p2).take (j + 1)).flatMap (famOut L s false is))) := by
                    show KI ..
                    rw [Htk2.out, Hf.out, hty2]
                    simpa using HKJ.out
                  have Hty2 : Hid ((x.ty == 2) = false) := hty2
                  clear hty2
                  go_wp2_with fail
                  go_roundw
                  case rel => exact ⟨j + 1, by omega, by go_num, HKJ'⟩
                  case measure => simp [intOf]; omega
                · rw [hty2] at ht2
                  have Hty2 : Hid ((x.ty == 2) = true) := hty2
                  clear hty2
                  go_wp2_with fail
                  refine (HS60.out _).mono ?_
                  rintro e w3 ⟨rfl, rfl⟩
                  cases hisb : isB x.ti s false
                  · have HKJ' : Hid (KI w.heap.size w1 bx n2 (.slice ska is.length skc) (wr.alloc (.cells #[.string s0, .string s1, .string s2, .string s3, .int .i32 x.st, .int .i32 x.en, .string s6, .int .i64 0, .pointer none, .string s9] 43)) u12 (acc ++ ((fromIdx L p2).take (j + 1)).flatMap (famOut L s false is))) := by
                      show KI ..
                      rw [Htk2.out, Hf.out, hisb]
                      simpa using HKJ.out
                    clear hisb
                    go_wp2_with fail
                    go_roundw
                    case rel => first | exact ⟨j + 1, by omega, by go_num, HKJ'⟩ | ((repeat apply Exists.intro); refine ⟨?_, rfl⟩; exact ⟨j + 1, by omega, by go_num, HKJ'⟩)
                    case measure => simp [intOf]; omega
                  · have Hisb : Hid (isB x.ti s false = true) := hisb
                    clear hisb
                    go_wp2_with fail
                    obtain ⟨svn, hownN, hstN⟩ := HKJ.out.next
                    have hI : KR w.heap.size w1 bx n2 (.slice ska is.length skc) wr.heap.size 3 s3 svn ((wr.alloc (.cells #[.string s0, .string s1, .string s2, .string s3, .int .i32 x.st, .int .i32 x.en, .string s6, .int .i64 0, .pointer none, .string s9] 43)).drew) u12 accj :=
                      KR.drew ⟨HKJ.out.bel, hownN, hstN, HKJ.out.box0, HKJ.out.box1, by go_simp, HKJ.out.lt, by simp, HKJ.out.ne, fun e => by have := (hKj.out.next.lt e.symm).2; omega⟩
                    have hk12 : ∀ k, u12.ownBlock = some k → k < wr.heap.size + 1 := fun k hk => by have := (hKj.out.next.lt hk).2; omega
                    have hC0 : w.heap.size ≤ wr.heap.size + 1 := by have := HB.out.size; have := hKj.out.bel.size; omega
                    have hB0 : wr.heap.size + 1 ≤ ((wr.alloc (.cells #[.string s0, .string s1, .string s2, .string s3, .int .i32 x.st, .int .i32 x.en, .string s6, .int .i64 0, .pointer none, .string s9] 43)).drew).heap.size := by simp
                    go_region_held3 (fun w' => w'.cell? ⟨wr.heap.size, 3, none⟩ = some (.string s3) ∧ w'.cell? ⟨bx, 1, none⟩ = some (.slice ska is.length skc))
                      (first | exact hI.s | exact (hI.alloc _).s | exact ((hI.alloc _).alloc _).s | exact hn.s)
                      (first
                        | (go_at_call 62; refine (one_any _ _).mono ?_; rintro en wA ⟨⟨u, rfl, hu⟩, hbA⟩; replace hI := hI.below hbA)
                        | (go_at_call 61; refine (kinCat w1 wA w.heap.size (wr.heap.size + 1) hC0 ska skc is i u hI.bel Hsk.out hisl (hu.mono (fun b hb _ => Nat.le_trans hB0 hb)) (Nat.le_trans hB0 hbA.size)).mono ?_; rintro en wB ⟨⟨gv, cv, rfl, hv'⟩, hbB⟩; replace hI := hI.below hbB)
                        | (refine step_append_lies _ (by rfl) _ _ _ (by rfl) w1.heap.size 115 i0 _ 2 40 Ybaf.underlying111 hi0 hz0 hz1 hz2 rfl (by decide) u12 accj.length (flat accj.length fun j => [.string (nameOf (accj.getD j default).1), svn j]) (by rfl) (hI.alloc _).own ⟨wB.heap.size, 0, none⟩ 1 1 [.string s3, .slice (some ⟨gv, 0, none⟩) (is.length + 1) cv] (by rfl) (by rfl) (news_two _ _ _ _) (one_two rfl) (by decide) (by unfold maxLen; omega) (by omega) (by have := (hI.alloc (.cells #[.string s3, .slice (some ⟨gv, 0, none⟩) (is.length + 1) cv] 115)).bel.size; exact this) (wB.heap.size + 1) (by simp) ?_; intro g cap wC hownC hgC hatC hltC; obtain ⟨svq, hn⟩ := hI.app (q := x.to) hv' hk12 Hs3.out hownC hgC hatC rfl))
                    have HKJ' : Hid (KI w.heap.size w1 bx n2 (.slice ska is.length skc) wC (.slice (some ⟨g, 0, none⟩) (accj.length + 1) cap) (acc ++ ((fromIdx L p2).take (j + 1)).flatMap (famOut L s false is))) := by
                      show KI ..
                      rw [Htk2.out, Hf.out, Hisb.out, Hty2.out]
                      obtain ⟨q1, q2, q3, q4, q5, q6⟩ := hn.toKI
                      exact ⟨q1, q2, q3, q4, q5, q6⟩
                    clear hI hownN hstN hn hownC hgC hatC hltC hbB hbA hu hv' hk12 hB0 hC0
                    go_wp2_with fail
                    go_roundw
                    case rel => first | exact ⟨j + 1, by omega, by go_num, HKJ'⟩ | ((repeat apply Exists.intro); refine ⟨?_, rfl⟩; exact ⟨j + 1, by omega, by go_num, HKJ'⟩)
                    case measure => simp [intOf]; omega
              · have hjl : j = (fromIdx L p2).length := by omega
                have HK2 : Hid (KI w.heap.size w1 bx n2 (.slice ska is.length skc) wr u12 (acc ++ (fromIdx L p2).flatMap (famOut L s false is))) := by
                  rw [hjl, List.take_length] at hKj
                  exact hKj
                have z0 := hKj.out.box0
                have hbx2 := hKj.out.lt
                clear hjl hKj HKc HI HF
                generalize hacc2 : acc ++ (fromIdx L p2).flatMap (famOut L s false is) = acc2 at *
                have Hacc2 : Hid (acc ++ (fromIdx L p2).flatMap (famOut L s false is) = acc2) := hacc2
                have hacc2l : acc2.length ≤ 16777300 := by
                  rw [← hacc2, List.length_append]
                  have h1 := flatMap_len_le (fromIdx L p2) (famOut L s false is) 1 (fun _ _ => famOut_len ..)
                  omega
                clear hacc2
                obtain ⟨w4, rfl⟩ : ∃ w4 : World, w4 = wr := ⟨_, rfl⟩
                go_wp2_with fail
                refine (HT.out _ HK2.out.bel).mono ?_
                rintro e w5 ⟨⟨v88, rfl, hI⟩, rfl⟩
                have hw5 := HB.out.trans (HK2.out.bel.mono HB.out.size)
                have HI : Hid (∀ W, Below w.heap.size w W → Ints (· < w.heap.size) W v88 (ofNats (toIdx L p2))) := fun W hW => Row.move hI (fun b hb => (hW.block b hb).trans (hw5.block b hb).symm) hW.size
                obtain ⟨va, vc, rfl⟩ := Row.form hI
                clear hI hw5
                rw [show (ofNats (toIdx L p2)).length = (toIdx L p2).length by simp [ofNats]] at *
                have hfl2 : (toIdx L p2).length ≤ 32 := Nat.le_trans (toIdx_len L p2) hlen
                go_wp2_with fail
                go_loopw [12, 90] (fun v i wr => ∃ j : Nat, j ≤ (toIdx L p2).length ∧ i = .int .i64 j ∧ Hid (KI w.heap.size w1 bx n2 (.slice ska is.length skc) wr v (acc2 ++ ((toIdx L p2).take j).flatMap (famOut L s true is)))) (fun _ i _ => (toIdx L p2).length - (intOf i).toNat)
                case atStart => exact ⟨0, Nat.zero_le _, rfl, by simpa using HK2⟩
                case round =>
                  obtain ⟨j, hj, rfl, hKj⟩ := hrel
                  by_cases hltj : j < (toIdx L p2).length
                  · obtain ⟨ib, ioff, icap, hie, hib, -, hic⟩ := Row.cell (HI.out wr (HB.out.trans (hKj.out.bel.mono HB.out.size))) (by simp [ofNats]; omega)
                    simp only [Value.slice.injEq] at hie
                    obtain ⟨rfl, -, rfl⟩ := hie
                    have hcell : wr.cell? ⟨ib, ioff + j, none⟩ = some (.int .i64 ((toIdx L p2)[j] : Nat)) := hic j _ (by simp [ofNats, List.getElem?_eq_getElem hltj])
                    have Htk2 : Hid (acc2 ++ ((toIdx L p2).take (j + 1)).flatMap (famOut L s true is) = (acc2 ++ ((toIdx L p2).take j).flatMap (famOut L s true is)) ++ famOut L s true is (toIdx L p2)[j]) := by
                      show _ = _
                      rw [List.take_succ_eq_append_getElem hltj, List.flatMap_append]
                      simp
                    have hi := toIdx_lt L p2 _ (List.getElem_mem hltj)
                    have haccl : (acc2 ++ ((toIdx L p2).take j).flatMap (famOut L s true is)).length ≤ 16777400 := by
                      rw [List.length_append]
                      have h1 := flatMap_len_le ((toIdx L p2).take j) (famOut L s true is) 1 (fun _ _ => famOut_len ..)
                      have h2 : ((toIdx L p2).take j).length ≤ 32 := by
                        have := toIdx_len L p2
                        simp
                        omega
                      omega
                    generalize acc2 ++ ((toIdx L p2).take j).flatMap (famOut L s true is) = accq at *
                    generalize (toIdx L p2)[j] = i at *
                    have hR : Reg (· < w.heap.size) wr rb L := H.out.below (HB.out.trans (hKj.out.bel.mono HB.out.size))
                    obtain ⟨rb2, roff, rcap, hc2, -, hb2, hcs⟩ := hR.cells hi
                    have hltr := hR.ltr
                    obtain ⟨hty, hfr, hto, hro, hti⟩ := HG.out i hi
                    have Hf : Hid (famOut L s true is i = if ((L.getD i r0).ty == 2 && isB (L.getD i r0).ti s true) = true then [((L.getD i r0).fr, is ++ [i])] else []) := rfl
                    clear hR hic
                    generalize L.getD i r0 = x at *
                    have x0 := hcs 0 _ rfl
                    have x1 := hcs 1 _ rfl
                    have x2 := hcs 2 _ rfl
                    have x3 := hcs 3 _ rfl
                    have x4 := hcs 4 _ rfl
                    have x5 := hcs 5 _ rfl
                    have x6 := hcs 6 _ rfl
                    have x7 := hcs 7 _ rfl
                    have x8 := hcs 8 _ rfl
                    have x9 := hcs 9 _ rfl
                    simp only [← Nat.add_assoc, Nat.add_zero] at x0 x1 x2 x3 x4 x5 x6 x7 x8 x9
                    have ht2 := (type_eq x.ty hty).2.2
                    have HS60 : Hid (∀ W, Calls Ybaf.prog 60 #[.string (tieOf x.ti), .string sn, .bool true] W fun e w' => e = .returned (.bool (isB x.ti s true)) ∧ w' = W) := fun W => Hsn.out ▸ isStep_any x.ti s true hti hs5 W
                    have Hnx : Hid (∃ nx, nx = nameOf x.fr) := ⟨_, rfl⟩
                    clear hcs
                    generalize idOf i = s0 at *
                    generalize typeOf x.ty = s1 at *
                    generalize tieOf x.ti = s9 at *
                    generalize roleOf x.ro = s6 at *
                    generalize hs2 : nameOf x.fr = s2 at *
                    generalize hs3 : nameOf x.to = s3 at *
                    have Hs2 : Hid (nameOf x.fr = s2) := hs2
                    have Hs3 : Hid (nameOf x.to = s3) := hs3
                    clear hs2 hs3 Hnx
                    have HKJ : Hid (KI w.heap.size w1 bx n2 (.slice ska is.length skc) (wr.alloc (.cells #[.string s0, .string s1, .string s2, .string s3, .int .i32 x.st, .int .i32 x.en, .string s6, .int .i64 0, .pointer none, .string s9] 43)) u12 accq) := hKj.out.alloc _
                    cases hty2 : (x.ty == 2)
                    · rw [hty2] at ht2
                      have HKJ' : Hid (KI w.heap.size w1 bx n2 (.slice ska is.length skc) (wr.alloc (.cells #[.string s0, .string s1, .string s2, .string s3, .int .i32 x.st, .int .i32 x.en, .string s6, .int .i64 0, .pointer none, .string s9] 43)) u12 (acc2 ++ ((toIdx L p2).take (j + 1)).flatMap (famOut L s true is))) := by
                        show KI ..
                        rw [Htk2.out, Hf.out, hty2]
                        simpa using HKJ.out
                      have Hty2 : Hid ((x.ty == 2) = false) := hty2
                      clear hty2
                      go_wp2_with fail
                      go_roundw
                      case rel => exact ⟨j + 1, by omega, by go_num, HKJ'⟩
                      case measure => simp [intOf]; omega
                    · rw [hty2] at ht2
                      have Hty2 : Hid ((x.ty == 2) = true) := hty2
                      clear hty2
                      go_wp2_with fail
                      refine (HS60.out _).mono ?_
                      rintro e w3 ⟨rfl, rfl⟩
                      cases hisb : isB x.ti s true
                      · have HKJ' : Hid (KI w.heap.size w1 bx n2 (.slice ska is.length skc) (wr.alloc (.cells #[.string s0, .string s1, .string s2, .string s3, .int .i32 x.st, .int .i32 x.en, .string s6, .int .i64 0, .pointer none, .string s9] 43)) u12 (acc2 ++ ((toIdx L p2).take (j + 1)).flatMap (famOut L s true is))) := by
                          show KI ..
                          rw [Htk2.out, Hf.out, hisb]
                          simpa using HKJ.out
                        clear hisb
                        go_wp2_with fail
                        go_roundw
                        case rel => first | exact ⟨j + 1, by omega, by go_num, HKJ'⟩ | ((repeat apply Exists.intro); refine ⟨?_, rfl⟩; exact ⟨j + 1, by omega, by go_num, HKJ'⟩)
                        case measure => simp [intOf]; omega
                      · have Hisb : Hid (isB x.ti s true = true) := hisb
                        clear hisb
                        go_wp2_with fail
                        obtain ⟨svn, hownN, hstN⟩ := HKJ.out.next
                        have hI : KR w.heap.size w1 bx n2 (.slice ska is.length skc) wr.heap.size 2 s2 svn ((wr.alloc (.cells #[.string s0, .string s1, .string s2, .string s3, .int .i32 x.st, .int .i32 x.en, .string s6, .int .i64 0, .pointer none, .string s9] 43)).drew) u12 accq :=
                          KR.drew ⟨HKJ.out.bel, hownN, hstN, HKJ.out.box0, HKJ.out.box1, by go_simp, HKJ.out.lt, by simp, HKJ.out.ne, fun e => by have := (hKj.out.next.lt e.symm).2; omega⟩
                        have hk12 : ∀ k, u12.ownBlock = some k → k < wr.heap.size + 1 := fun k hk => by have := (hKj.out.next.lt hk).2; omega
                        have hC0 : w.heap.size ≤ wr.heap.size + 1 := by have := HB.out.size; have := hKj.out.bel.size; omega
                        have hB0 : wr.heap.size + 1 ≤ ((wr.alloc (.cells #[.string s0, .string s1, .string s2, .string s3, .int .i32 x.st, .int .i32 x.en, .string s6, .int .i64 0, .pointer none, .string s9] 43)).drew).heap.size := by simp
                        go_region_held3 (fun w' => w'.cell? ⟨wr.heap.size, 2, none⟩ = some (.string s2) ∧ w'.cell? ⟨bx, 1, none⟩ = some (.slice ska is.length skc))
                          (first | exact hI.s | exact (hI.alloc _).s | exact ((hI.alloc _).alloc _).s | exact hn.s)
                          (first
                            | (go_at_call 62; refine (one_any _ _).mono ?_; rintro en wA ⟨⟨u, rfl, hu⟩, hbA⟩; replace hI := hI.below hbA)
                            | (go_at_call 61; refine (kinCat w1 wA w.heap.size (wr.heap.size + 1) hC0 ska skc is i u hI.bel Hsk.out hisl (hu.mono (fun b hb _ => Nat.le_trans hB0 hb)) (Nat.le_trans hB0 hbA.size)).mono ?_; rintro en wB ⟨⟨gv, cv, rfl, hv'⟩, hbB⟩; replace hI := hI.below hbB)
                            | (refine step_append_lies _ (by rfl) _ _ _ (by rfl) w1.heap.size 115 i0 _ 2 40 Ybaf.underlying111 hi0 hz0 hz1 hz2 rfl (by decide) u12 accq.length (flat accq.length fun j => [.string (nameOf (accq.getD j default).1), svn j]) (by rfl) (hI.alloc _).own ⟨wB.heap.size, 0, none⟩ 1 1 [.string s2, .slice (some ⟨gv, 0, none⟩) (is.length + 1) cv] (by rfl) (by rfl) (news_two _ _ _ _) (one_two rfl) (by decide) (by unfold maxLen; omega) (by omega) (by have := (hI.alloc (.cells #[.string s2, .slice (some ⟨gv, 0, none⟩) (is.length + 1) cv] 115)).bel.size; exact this) (wB.heap.size + 1) (by simp) ?_; intro g cap wC hownC hgC hatC hltC; obtain ⟨svq, hn⟩ := hI.app (q := x.fr) hv' hk12 Hs2.out hownC hgC hatC rfl))
                        have HKJ' : Hid (KI w.heap.size w1 bx n2 (.slice ska is.length skc) wC (.slice (some ⟨g, 0, none⟩) (accq.length + 1) cap) (acc2 ++ ((toIdx L p2).take (j + 1)).flatMap (famOut L s true is))) := by
                          show KI ..
                          rw [Htk2.out, Hf.out, Hisb.out, Hty2.out]
                          obtain ⟨q1, q2, q3, q4, q5, q6⟩ := hn.toKI
                          exact ⟨q1, q2, q3, q4, q5, q6⟩
                        clear hI hownN hstN hn hownC hgC hatC hltC hbB hbA hu hv' hk12 hB0 hC0
                        go_wp2_with fail
                        go_roundw
                        case rel => first | exact ⟨j + 1, by omega, by go_num, HKJ'⟩ | ((repeat apply Exists.intro); refine ⟨?_, rfl⟩; exact ⟨j + 1, by omega, by go_num, HKJ'⟩)
                        case measure => simp [intOf]; omega
                  · have hjl : j = (toIdx L p2).length := by omega
                    have HK3 : Hid (KI w.heap.size w1 bx n2 (.slice ska is.length skc) wr u12 (kinStep L s (K.take (k2 + 1)))) := by
                      rw [hjl, List.take_length] at hKj
                      show KI ..
                      rw [Hsnoc.out, kin1, ← List.append_assoc, Hacc2.out]
                      exact hKj.out
                    clear hjl hKj HK2 HI HT
                    go_wp2_with fail
                    go_roundw
                    case rel => first | exact ⟨k2 + 1, by omega, by go_num, HK3.out.next, HK3.out.bel⟩ | ((repeat apply Exists.intro); refine ⟨?_, rfl⟩; exact ⟨k2 + 1, by omega, by go_num, HK3.out.next, HK3.out.bel⟩)
                    case measure => simp [intOf]; omega
        · have hk2l : k2 = K.length := by omega
          have HN : Hid (Kins (w.heap.size ≤ ·) wr u12 (kinL L p (path.take (k + 1)))) := by
            rw [hk2l, List.take_length] at hnext
            show Kins ..
            rw [Htk.out, kinL_snoc, HKK.out]
            exact hnext.out.kins HB.out.size
          have HBw : Hid (Below w.heap.size w wr) := HB.out.trans (hbl1.mono HB.out.size)
          clear hk2l hnext hbl1
          go_wp2_with fail
          go_roundw
          case rel => first | exact ⟨k + 1, by omega, by go_num, HN, HBw.out⟩ | ((repeat apply Exists.intro); refine ⟨?_, rfl⟩; exact ⟨k + 1, by omega, by go_num, HN, HBw.out⟩)
          case measure => simp [intOf]; omega
    · go_wp2_with fail
      go_ret
      have : k = path.length := by omega
      subst this
      rw [List.take_length] at hkin
      exact ⟨⟨_, rfl, hkin⟩, hbl⟩
end Go.Proofs.YbulkcfwsFmt
