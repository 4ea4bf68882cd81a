import Derived.RangeFuncNested
import Derived.RangeFuncBound
import Derived.RangeFuncCalls
import Derived.RangeFuncLeaves
import Derived.Shelf.Abstract
import Derived.Shelf.RegionOpen
import Derived.WalkKit
import Derived.OwnWalkIn
import Derived.TacticsInMore
import Derived.LoopNIn
import Derived.LoopIn
import Derived.Test.YbulkcfwsFmtOffice
namespace Go.Proofs.YbulkcfwsFmt
open Go.RowKit Go.Shelf
attribute [local go_sem] Oper.semAt_some

/-- Relation i is a control relation that holds. -/
def ctlB (L : List Rel) (d : Int) (i : Nat) : Bool := (L.getD i r0).ty == 1 && (L.getD i r0).on d
def otherOf (L : List Rel) (up : Bool) (i : Nat) : Nat := if up then (L.getD i r0).fr else (L.getD i r0).to
def nbIdx (L : List Rel) (up : Bool) (a : Nat) : List Nat := if up then toIdx L a else fromIdx L a
/-- What the iterator hands over. -/
def outX (L : List Rel) (up : Bool) (i : Nat) : Nat × Fin 7 := (i, Fin.ofNat 7 (otherOf L up i))
def outs (L : List Rel) (d : Int) (up : Bool) (a : Nat) : List (Nat × Fin 7) := ((nbIdx L up a).filter (ctlB L d)).map (outX L up)

/-- What a round must keep: the blocks below n₀, and four boxes from B on. -/
structure Kept (n₀ B : Nat) (W W' : World) : Prop where
  size : W.heap.size ≤ W'.heap.size
  block : ∀ k, k < n₀ ∨ (B ≤ k ∧ k < B + 4) → W'.heap[k]? = W.heap[k]?

theorem Kept.refl (n₀ B : Nat) (W : World) : Kept n₀ B W W := ⟨Nat.le_refl _, fun _ _ => rfl⟩
theorem Kept.trans {n₀ B : Nat} {W1 W2 W3 : World} (h : Kept n₀ B W1 W2) (k : Kept n₀ B W2 W3) : Kept n₀ B W1 W3 := ⟨Nat.le_trans h.size k.size, fun i hi => (k.block i hi).trans (h.block i hi)⟩
theorem Kept.of_below {n₀ B : Nat} {W W' : World} (h : Below W.heap.size W W') (hn : n₀ ≤ W.heap.size) (hB : B + 4 ≤ W.heap.size) : Kept n₀ B W W' := ⟨h.size, fun k hk => h.block k (by omega)⟩
theorem grown_of_below {W W' : World} (h : Below W.heap.size W W') : W.grownBy W' none := ⟨h.os, h.tape, h.output, h.size, fun k hk _ => h.block k hk⟩

theorem outs_snoc (L : List Rel) (d : Int) (up : Bool) (xs : List Nat) (k : Nat) (hk : k < xs.length) : ((xs.take (k + 1)).filter (ctlB L d)).map (outX L up) = ((xs.take k).filter (ctlB L d)).map (outX L up) ++ (if ctlB L d xs[k] = true then [outX L up xs[k]] else []) := by
  rw [List.take_succ_eq_append_getElem hk, List.filter_append, List.map_append]
  congr 1
  cases e : ctlB L d xs[k] <;> simp [e]

theorem Row.shift {B : Nat} {w w' : World} {v : Value} {n m : Nat} {cs : List Value} (h : Row (· < B) w v n m cs) (hk : ∀ b, b < B → w'.heap[b]? = w.heap[b]?) (hs : B ≤ w'.heap.size) : Row (· < B) w' v n m cs := by
  obtain ⟨hl, a, cap, rfl, hcap, h⟩ := h
  refine ⟨hl, a, cap, rfl, hcap, ?_⟩
  rcases h with h | ⟨b, off, rfl, hok, hb, hc⟩
  · exact .inl h
  · exact .inr ⟨b, off, rfl, hok, Nat.lt_of_lt_of_le hok hs, fun j u hj => by rw [cell_of_heap (hk b hok)]; exact hc j u hj⟩

theorem undef_ne {b : Bool} (h : some undef = some (Value.bool b)) : False := by
  simp [undef] at h

theorem outX_val (L : List Rel) (up : Bool) (i : Nat) (h : otherOf L up i < 7) : (outX L up i).2.val = otherOf L up i := by
  show otherOf L up i % 7 = _
  exact Nat.mod_eq_of_lt h

set_option maxRecDepth 100000 in
set_option maxHeartbeats 4000000 in
theorem iter_in (l n₀ B rb a : Nat) (up : Bool) (L : List Rel) (d : Int) (hd : d ≠ 0) (ha : a < 7) (J Jx : List (Nat × Fin 7) → World → Prop) (W : World)
    (hJ : ∀ pre A A', J pre A → Below A.heap.size A A' → J pre A')
    (hY : ∀ pre (x : Nat × Fin 7) W1, J pre W1 → pre.length < 32 → YieldAt Fence.wide (9 - 1) Ybaf.prog l #[.int .i64 (x.1 : Nat), .string (nameOf x.2.val)] W1 fun e W' =>
      (e = .returned (.bool true) ∧ J (pre ++ [x]) W' ∧ Kept n₀ B W1 W') ∨ (e = .returned (.bool false) ∧ Jx (pre ++ [x]) W'))
    (hR : Reg (· < n₀) W rb L) (hn₀ : n₀ ≤ W.heap.size) (hB : B + 4 ≤ W.heap.size)
    (k1 : W.cell? ⟨B, 0, none⟩ = some (.pointer (some ⟨rb, 0, none⟩))) (k2 : W.cell? ⟨B + 1, 0, none⟩ = some (.string (nameOf a))) (k3 : W.cell? ⟨B + 2, 0, none⟩ = some (.bool up)) (k4 : W.cell? ⟨B + 3, 0, none⟩ = some (.int .i32 d))
    (h0 : J [] W) :
    CallsIn Fence.wide 9 Ybaf.prog 64 #[.func (.yield l) #[] #[], .pointer (some ⟨B, 0, none⟩), .pointer (some ⟨B + 1, 0, none⟩), .pointer (some ⟨B + 2, 0, none⟩), .pointer (some ⟨B + 3, 0, none⟩)] W fun e W' => (∃ v, e = .returned v) ∧
      ((∃ xs, xs = outs L d up a ∧ J xs W') ∨ (∃ pre, True ∧ Jx pre W')) := by
  have HF : Hid (Calls Ybaf.prog 38 #[.pointer (some ⟨rb, 0, none⟩), .string (nameOf a)] W fun e w' => (∃ v', e = .returned v' ∧ Ints (· < n₀) W v' (ofNats (fromIdx L a))) ∧ w' = W) := from_any rb a L W hR ha
  have HT : Hid (Calls Ybaf.prog 23 #[.pointer (some ⟨rb, 0, none⟩), .string (nameOf a)] W fun e w' => (∃ v', e = .returned v' ∧ Ints (· < n₀) W v' (ofNats (toIdx L a))) ∧ w' = W) := to_any rb a L W hR ha
  have hlen := hR.len
  have HG : Hid (∀ i, i < L.length → (L.getD i r0).ok) := hR.good
  have H : Hid (Reg (· < n₀) W rb L) := hR
  have HJ : Hid (∀ pre A A', J pre A → Below A.heap.size A A' → J pre A') := hJ
  have H0 : Hid (J [] W) := h0
  clear hR h0 hJ
  generalize nameOf a = na at *
  have hsome : ∃ xs, xs = nbIdx L up a ∧ xs.length ≤ 32 ∧ ∀ i ∈ xs, i < L.length := by
    refine ⟨_, rfl, ?_, ?_⟩
    · unfold nbIdx
      split
      · exact Nat.le_trans (toIdx_len L a) hlen
      · exact Nat.le_trans (fromIdx_len L a) hlen
    · unfold nbIdx
      split
      · exact toIdx_lt L a
      · exact fromIdx_lt L a
  obtain ⟨xs, hxs, hxl, hxi⟩ := hsome
  have HXS : Hid (xs = nbIdx L up a) := hxs
  have HXI : Hid (∀ i ∈ xs, i < L.length) := hxi
  clear hxs hxi
  have hd0 : (d == 0) = false := by simpa using hd
  have HD : Hid (d ≠ 0) := hd
  clear hd
  refine callsIn_of_wp Ybaf.func64 rfl trivial ?_ rfl
  simp only [Ybaf.ntmps64, List.size_toArray, List.length_cons, List.length_nil, Nat.reduceAdd, Nat.reduceSub, Array.replicate_succ, Array.replicate_zero, List.push_toArray, List.append_toArray, List.nil_append, List.cons_append]
  cases up
  · gi_wp2_with fail
    refine ⟨trivial, (callsIn_wide.2 HF.out).mono ?_⟩
    rintro e w' ⟨⟨v, rfl, hI⟩, hw⟩
    have hw' := hw.symm
    subst hw'
    clear hw
    obtain ⟨va, vc, rfl⟩ := Row.form hI
    have hxe : fromIdx L a = xs := HXS.out.symm
    rw [show (ofNats (fromIdx L a)).length = (fromIdx L a).length by simp [ofNats], hxe] at hI ⊢
    have HI : Hid (∀ wr, Kept n₀ B W wr → Ints (· < n₀) wr (.slice va xs.length vc) (ofNats xs)) := fun wr hk => Row.shift hI (fun b hb => hk.block b (.inl hb)) (Nat.le_trans hn₀ hk.size)
    clear hI hxe HF HT
    gi_wp2_with fail
    gi_loopw [20] (fun i wr => ∃ k : Nat, k ≤ xs.length ∧ i = .int .i64 k ∧ Hid (J (((xs.take k).filter (ctlB L d)).map (outX L false)) wr) ∧ Hid (Kept n₀ B W wr)) (fun i _ => xs.length - (intOf i).toNat)
    case atStart => exact ⟨0, Nat.zero_le _, rfl, H0, Kept.refl _ _ _⟩
    case round =>
      obtain ⟨k, hk, rfl, hJs, hkp⟩ := hrel
      by_cases hlt : k < xs.length
      · obtain ⟨ib, ioff, icap, hie, hib, -, hic⟩ := Row.cell (HI.out wr hkp.out) (by simp [ofNats]; omega)
        simp only [Value.slice.injEq] at hie
        obtain ⟨rfl, -, rfl⟩ := hie
        have hcell : wr.cell? ⟨ib, ioff + k, none⟩ = some (.int .i64 (xs[k] : Nat)) := hic k _ (by simp [ofNats, List.getElem?_eq_getElem hlt])
        have Hsn : Hid (((xs.take (k + 1)).filter (ctlB L d)).map (outX L false) = ((xs.take k).filter (ctlB L d)).map (outX L false) ++ (if ctlB L d xs[k] = true then [outX L false xs[k]] else [])) := outs_snoc L d false xs k hlt
        have hi := HXI.out _ (List.getElem_mem hlt)
        have hprel : (((xs.take k).filter (ctlB L d)).map (outX L false)).length < 32 := by
          rw [List.length_map]
          have h1 := List.length_filter_le (ctlB L d) (xs.take k)
          have h2 : (xs.take k).length ≤ k := by simp; omega
          omega
        generalize ((xs.take k).filter (ctlB L d)).map (outX L false) = pre at *
        generalize xs[k] = i at *
        have hRw : Reg (· < n₀) wr rb L := H.out.keep (fun b hok _ => ⟨hkp.out.block b (.inl hok), hok⟩) hkp.out.size
        obtain ⟨rb2, roff, rcap, hc2, -, hb2, hcs⟩ := hRw.cells hi
        have hltr := hRw.ltr
        obtain ⟨hty, hfr, hto, hro, hti⟩ := HG.out i hi
        have Hct : Hid (ctlB L d i = ((L.getD i r0).ty == 1 && (L.getD i r0).on d)) := rfl
        have Hot : Hid (otherOf L false i = (L.getD i r0).to) := rfl
        have j1 : wr.cell? ⟨B, 0, none⟩ = some (.pointer (some ⟨rb, 0, none⟩)) := (cell_of_heap (hkp.out.block B (.inr ⟨Nat.le_refl _, by omega⟩)) 0).trans k1
        have j3 : wr.cell? ⟨B + 2, 0, none⟩ = some (.bool false) := (cell_of_heap (hkp.out.block (B + 2) (.inr ⟨by omega, by omega⟩)) 0).trans k3
        have j4 : wr.cell? ⟨B + 3, 0, none⟩ = some (.int .i32 d) := (cell_of_heap (hkp.out.block (B + 3) (.inr ⟨by omega, by omega⟩)) 0).trans k4
        have hBr : B + 4 ≤ wr.heap.size := Nat.le_trans hB hkp.out.size
        have hB0 : B < wr.heap.size := by omega
        have hB2 : B + 2 < wr.heap.size := by omega
        have hB3 : B + 3 < wr.heap.size := by omega
        clear hRw hic
        generalize L.getD i r0 = x at *
        have x0 := hcs 0 _ rfl
        have x1 := hcs 1 _ rfl
        have x2 := hcs 2 _ rfl
        have x3 := hcs 3 _ rfl
        have x4 := hcs 4 _ rfl
        have x5 := hcs 5 _ rfl
        have x6 := hcs 6 _ rfl
        have x7 := hcs 7 _ rfl
        have x8 := hcs 8 _ rfl
        have x9 := hcs 9 _ rfl
        simp only [← Nat.add_assoc, Nat.add_zero] at x0 x1 x2 x3 x4 x5 x6 x7 x8 x9
        have ht1 := (type_eq x.ty hty).2.1
        have hH : Hid (∀ W, Calls Ybaf.prog 24 #[.agg #[.string (idOf i), .string (typeOf x.ty), .string (nameOf x.fr), .string (nameOf x.to), .int .i32 x.st, .int .i32 x.en, .string (roleOf x.ro), .int .i64 0, .pointer none, .string (tieOf x.ti)], .int .i32 d] W fun e w' => e = .returned (.bool (x.on d)) ∧ Below W.heap.size W w') := fun W => holdsOn_any i x d W
        clear hcs
        generalize idOf i = s0 at *
        generalize typeOf x.ty = s1 at *
        generalize tieOf x.ti = s9 at *
        generalize roleOf x.ro = s6 at *
        generalize hs2 : nameOf x.fr = s2 at *
        generalize hs3 : nameOf x.to = s3 at *
        have Hs2 : Hid (nameOf x.fr = s2) := hs2
        have Hs3 : Hid (nameOf x.to = s3) := hs3
        clear hs2 hs3
        have hbx := (Below.refl wr.heap.size wr).alloc (Nat.le_refl _) (.cells #[.string s0, .string s1, .string s2, .string s3, .int .i32 x.st, .int .i32 x.en, .string s6, .int .i64 0, .pointer none, .string s9] 43)
        have HBX : Hid (Below wr.heap.size wr (wr.alloc (.cells #[.string s0, .string s1, .string s2, .string s3, .int .i32 x.st, .int .i32 x.en, .string s6, .int .i64 0, .pointer none, .string s9] 43))) := hbx
        clear hbx
        cases hty1 : (x.ty == 1)
        · rw [hty1] at ht1
          have HJ' : Hid (J (((xs.take (k + 1)).filter (ctlB L d)).map (outX L false)) (wr.alloc (.cells #[.string s0, .string s1, .string s2, .string s3, .int .i32 x.st, .int .i32 x.en, .string s6, .int .i64 0, .pointer none, .string s9] 43))) := by
            show J _ _
            rw [Hsn.out, Hct.out, hty1]
            simpa using HJ.out _ _ _ hJs.out HBX.out
          clear hty1
          gi_wp2_with fail
          all_goals try exact (undef_ne (by assumption)).elim
          refine ⟨trivial, ?_⟩
          gi_wp2_with fail
          all_goals try exact (undef_ne (by assumption)).elim
          go_roundw
          case rel => first | exact ⟨k + 1, by omega, by go_num, HJ', hkp.out.trans (Kept.of_below HBX.out (Nat.le_trans hn₀ hkp.out.size) hBr)⟩ | ((repeat apply Exists.intro); refine ⟨?_, rfl⟩; exact ⟨k + 1, by omega, by go_num, HJ', hkp.out.trans (Kept.of_below HBX.out (Nat.le_trans hn₀ hkp.out.size) hBr)⟩)
          case measure => simp [intOf]; omega
        · rw [hty1] at ht1
          have Hty1 : Hid ((x.ty == 1) = true) := hty1
          clear hty1
          gi_wp2_with fail
          refine ⟨trivial, (callsIn_wide.2 (hH.out _)).mono ?_⟩
          rintro e w1 ⟨rfl, hb1⟩
          have hbw : Below wr.heap.size wr w1 := HBX.out.trans (hb1.mono HBX.out.size)
          have z3 : w1.cell? ⟨wr.heap.size, 3, none⟩ = some (.string s3) := (hb1.cell (by simp)).trans (by simp)
          have z2 : w1.cell? ⟨wr.heap.size, 2, none⟩ = some (.string s2) := (hb1.cell (by simp)).trans (by simp)
          have i3 : w1.cell? ⟨B + 2, 0, none⟩ = some (.bool false) := (hbw.cell (p := ⟨B + 2, 0, none⟩) (by simp; omega)).trans j3
          have hlt1 : wr.heap.size < w1.heap.size := by have := hb1.size; simp at this; omega
          have HBW : Hid (Below wr.heap.size wr w1) := hbw
          have HJ1 : Hid (J pre w1) := HJ.out _ _ _ hJs.out hbw
          have HK1 : Hid (Kept n₀ B W w1) := hkp.out.trans (Kept.of_below hbw (Nat.le_trans hn₀ hkp.out.size) hBr)
          clear hb1 hbw hBr HBX
          cases hon : x.on d
          · have HJ' : Hid (J (((xs.take (k + 1)).filter (ctlB L d)).map (outX L false)) w1) := by
              show J _ _
              rw [Hsn.out, Hct.out, hon]
              simpa using HJ1.out
            clear hon
            gi_wp2_with fail
            go_roundw
            case rel => first | exact ⟨k + 1, by omega, by go_num, HJ', HK1⟩ | ((repeat apply Exists.intro); refine ⟨?_, rfl⟩; exact ⟨k + 1, by omega, by go_num, HJ', HK1⟩)
            case measure => simp [intOf]; omega
          · obtain ⟨fn, tmps, assign, body, hy, hRd⟩ := hY pre (outX L false i) w1 HJ1.out hprel
            rw [outX_val L false i (by rw [Hot.out]; omega), Hot.out, Hs3.out] at hy
            have hfst : (outX L false i).1 = i := rfl
            rw [hfst] at hy
            have Hon : Hid (((xs.take (k + 1)).filter (ctlB L d)).map (outX L false) = pre ++ [outX L false i]) := by
              show _ = _
              rw [Hsn.out, Hct.out, hon, Hty1.out]
              simp
            clear hon hfst hY
            gi_wp2_with fail
            refine hRd.mono ?_
            rintro e W3 (⟨rfl, hJ3, hk3⟩ | ⟨rfl, hJx3⟩)
            · have HJ' : Hid (J (((xs.take (k + 1)).filter (ctlB L d)).map (outX L false)) W3) := by
                show J _ _
                rw [Hon.out]
                exact hJ3
              have HK3 : Hid (Kept n₀ B W W3) := HK1.out.trans hk3
              clear hJ3 hk3
              gi_wp2_with fail
              go_roundw
              case rel => first | exact ⟨k + 1, by omega, by go_num, HJ', HK3⟩ | ((repeat apply Exists.intro); refine ⟨?_, rfl⟩; exact ⟨k + 1, by omega, by go_num, HJ', HK3⟩)
              case measure => simp [intOf]; omega
            · have HJX : Hid (Jx (pre ++ [outX L false i]) W3) := hJx3
              clear hJx3
              gi_wp2_with fail
              refine bodyPost_ret (results_none rfl _ _ _) rfl ?_
              exact ⟨⟨_, rfl⟩, .inr ⟨_, trivial, HJX.out⟩⟩
      · have hkl : k = xs.length := by omega
        gi_wp2_with fail
        go_end0
        refine ⟨⟨_, rfl⟩, .inl ⟨_, rfl, ?_⟩⟩
        unfold outs
        rw [← HXS.out]
        rw [hkl, List.take_length] at hJs
        exact hJs.out
  · gi_wp2_with fail
    refine ⟨trivial, (callsIn_wide.2 HF.out).mono ?_⟩
    rintro e w' ⟨⟨v13, rfl, -⟩, hw⟩
    have hw' := hw.symm
    subst hw'
    clear hw
    gi_wp2_with fail
    refine ⟨trivial, (callsIn_wide.2 HT.out).mono ?_⟩
    rintro e w' ⟨⟨v, rfl, hI⟩, hw⟩
    have hw' := hw.symm
    subst hw'
    clear hw
    obtain ⟨va, vc, rfl⟩ := Row.form hI
    have hxe : toIdx L a = xs := HXS.out.symm
    rw [show (ofNats (toIdx L a)).length = (toIdx L a).length by simp [ofNats], hxe] at hI ⊢
    have HI : Hid (∀ wr, Kept n₀ B W wr → Ints (· < n₀) wr (.slice va xs.length vc) (ofNats xs)) := fun wr hk => Row.shift hI (fun b hb => hk.block b (.inl hb)) (Nat.le_trans hn₀ hk.size)
    clear hI hxe HF HT
    gi_wp2_with fail
    gi_loopw [20] (fun i wr => ∃ k : Nat, k ≤ xs.length ∧ i = .int .i64 k ∧ Hid (J (((xs.take k).filter (ctlB L d)).map (outX L true)) wr) ∧ Hid (Kept n₀ B W wr)) (fun i _ => xs.length - (intOf i).toNat)
    case atStart => exact ⟨0, Nat.zero_le _, rfl, H0, Kept.refl _ _ _⟩
    case round =>
      obtain ⟨k, hk, rfl, hJs, hkp⟩ := hrel
      by_cases hlt : k < xs.length
      · obtain ⟨ib, ioff, icap, hie, hib, -, hic⟩ := Row.cell (HI.out wr hkp.out) (by simp [ofNats]; omega)
        simp only [Value.slice.injEq] at hie
        obtain ⟨rfl, -, rfl⟩ := hie
        have hcell : wr.cell? ⟨ib, ioff + k, none⟩ = some (.int .i64 (xs[k] : Nat)) := hic k _ (by simp [ofNats, List.getElem?_eq_getElem hlt])
        have Hsn : Hid (((xs.take (k + 1)).filter (ctlB L d)).map (outX L true) = ((xs.take k).filter (ctlB L d)).map (outX L true) ++ (if ctlB L d xs[k] = true then [outX L true xs[k]] else [])) := outs_snoc L d true xs k hlt
        have hi := HXI.out _ (List.getElem_mem hlt)
        have hprel : (((xs.take k).filter (ctlB L d)).map (outX L true)).length < 32 := by
          rw [List.length_map]
          have h1 := List.length_filter_le (ctlB L d) (xs.take k)
          have h2 : (xs.take k).length ≤ k := by simp; omega
          omega
        generalize ((xs.take k).filter (ctlB L d)).map (outX L true) = pre at *
        generalize xs[k] = i at *
        have hRw : Reg (· < n₀) wr rb L := H.out.keep (fun b hok _ => ⟨hkp.out.block b (.inl hok), hok⟩) hkp.out.size
        obtain ⟨rb2, roff, rcap, hc2, -, hb2, hcs⟩ := hRw.cells hi
        have hltr := hRw.ltr
        obtain ⟨hty, hfr, hto, hro, hti⟩ := HG.out i hi
        have Hct : Hid (ctlB L d i = ((L.getD i r0).ty == 1 && (L.getD i r0).on d)) := rfl
        have Hot : Hid (otherOf L true i = (L.getD i r0).fr) := rfl
        have j1 : wr.cell? ⟨B, 0, none⟩ = some (.pointer (some ⟨rb, 0, none⟩)) := (cell_of_heap (hkp.out.block B (.inr ⟨Nat.le_refl _, by omega⟩)) 0).trans k1
        have j3 : wr.cell? ⟨B + 2, 0, none⟩ = some (.bool true) := (cell_of_heap (hkp.out.block (B + 2) (.inr ⟨by omega, by omega⟩)) 0).trans k3
        have j4 : wr.cell? ⟨B + 3, 0, none⟩ = some (.int .i32 d) := (cell_of_heap (hkp.out.block (B + 3) (.inr ⟨by omega, by omega⟩)) 0).trans k4
        have hBr : B + 4 ≤ wr.heap.size := Nat.le_trans hB hkp.out.size
        have hB0 : B < wr.heap.size := by omega
        have hB2 : B + 2 < wr.heap.size := by omega
        have hB3 : B + 3 < wr.heap.size := by omega
        clear hRw hic
        generalize L.getD i r0 = x at *
        have x0 := hcs 0 _ rfl
        have x1 := hcs 1 _ rfl
        have x2 := hcs 2 _ rfl
        have x3 := hcs 3 _ rfl
        have x4 := hcs 4 _ rfl
        have x5 := hcs 5 _ rfl
        have x6 := hcs 6 _ rfl
        have x7 := hcs 7 _ rfl
        have x8 := hcs 8 _ rfl
        have x9 := hcs 9 _ rfl
        simp only [← Nat.add_assoc, Nat.add_zero] at x0 x1 x2 x3 x4 x5 x6 x7 x8 x9
        have ht1 := (type_eq x.ty hty).2.1
        have hH : Hid (∀ W, Calls Ybaf.prog 24 #[.agg #[.string (idOf i), .string (typeOf x.ty), .string (nameOf x.fr), .string (nameOf x.to), .int .i32 x.st, .int .i32 x.en, .string (roleOf x.ro), .int .i64 0, .pointer none, .string (tieOf x.ti)], .int .i32 d] W fun e w' => e = .returned (.bool (x.on d)) ∧ Below W.heap.size W w') := fun W => holdsOn_any i x d W
        clear hcs
        generalize idOf i = s0 at *
        generalize typeOf x.ty = s1 at *
        generalize tieOf x.ti = s9 at *
        generalize roleOf x.ro = s6 at *
        generalize hs2 : nameOf x.fr = s2 at *
        generalize hs3 : nameOf x.to = s3 at *
        have Hs2 : Hid (nameOf x.fr = s2) := hs2
        have Hs3 : Hid (nameOf x.to = s3) := hs3
        clear hs2 hs3
        have hbx := (Below.refl wr.heap.size wr).alloc (Nat.le_refl _) (.cells #[.string s0, .string s1, .string s2, .string s3, .int .i32 x.st, .int .i32 x.en, .string s6, .int .i64 0, .pointer none, .string s9] 43)
        have HBX : Hid (Below wr.heap.size wr (wr.alloc (.cells #[.string s0, .string s1, .string s2, .string s3, .int .i32 x.st, .int .i32 x.en, .string s6, .int .i64 0, .pointer none, .string s9] 43))) := hbx
        clear hbx
        cases hty1 : (x.ty == 1)
        · rw [hty1] at ht1
          have HJ' : Hid (J (((xs.take (k + 1)).filter (ctlB L d)).map (outX L true)) (wr.alloc (.cells #[.string s0, .string s1, .string s2, .string s3, .int .i32 x.st, .int .i32 x.en, .string s6, .int .i64 0, .pointer none, .string s9] 43))) := by
            show J _ _
            rw [Hsn.out, Hct.out, hty1]
            simpa using HJ.out _ _ _ hJs.out HBX.out
          clear hty1
          gi_wp2_with fail
          all_goals try exact (undef_ne (by assumption)).elim
          refine ⟨trivial, ?_⟩
          gi_wp2_with fail
          all_goals try exact (undef_ne (by assumption)).elim
          go_roundw
          case rel => first | exact ⟨k + 1, by omega, by go_num, HJ', hkp.out.trans (Kept.of_below HBX.out (Nat.le_trans hn₀ hkp.out.size) hBr)⟩ | ((repeat apply Exists.intro); refine ⟨?_, rfl⟩; exact ⟨k + 1, by omega, by go_num, HJ', hkp.out.trans (Kept.of_below HBX.out (Nat.le_trans hn₀ hkp.out.size) hBr)⟩)
          case measure => simp [intOf]; omega
        · rw [hty1] at ht1
          have Hty1 : Hid ((x.ty == 1) = true) := hty1
          clear hty1
          gi_wp2_with fail
          refine ⟨trivial, (callsIn_wide.2 (hH.out _)).mono ?_⟩
          rintro e w1 ⟨rfl, hb1⟩
          have hbw : Below wr.heap.size wr w1 := HBX.out.trans (hb1.mono HBX.out.size)
          have z3 : w1.cell? ⟨wr.heap.size, 3, none⟩ = some (.string s3) := (hb1.cell (by simp)).trans (by simp)
          have z2 : w1.cell? ⟨wr.heap.size, 2, none⟩ = some (.string s2) := (hb1.cell (by simp)).trans (by simp)
          have i3 : w1.cell? ⟨B + 2, 0, none⟩ = some (.bool true) := (hbw.cell (p := ⟨B + 2, 0, none⟩) (by simp; omega)).trans j3
          have hlt1 : wr.heap.size < w1.heap.size := by have := hb1.size; simp at this; omega
          have HBW : Hid (Below wr.heap.size wr w1) := hbw
          have HJ1 : Hid (J pre w1) := HJ.out _ _ _ hJs.out hbw
          have HK1 : Hid (Kept n₀ B W w1) := hkp.out.trans (Kept.of_below hbw (Nat.le_trans hn₀ hkp.out.size) hBr)
          clear hb1 hbw hBr HBX
          cases hon : x.on d
          · have HJ' : Hid (J (((xs.take (k + 1)).filter (ctlB L d)).map (outX L true)) w1) := by
              show J _ _
              rw [Hsn.out, Hct.out, hon]
              simpa using HJ1.out
            clear hon
            gi_wp2_with fail
            go_roundw
            case rel => first | exact ⟨k + 1, by omega, by go_num, HJ', HK1⟩ | ((repeat apply Exists.intro); refine ⟨?_, rfl⟩; exact ⟨k + 1, by omega, by go_num, HJ', HK1⟩)
            case measure => simp [intOf]; omega
          · obtain ⟨fn, tmps, assign, body, hy, hRd⟩ := hY pre (outX L true i) w1 HJ1.out hprel
            rw [outX_val L true i (by rw [Hot.out]; omega), Hot.out, Hs2.out] at hy
            have hfst : (outX L true i).1 = i := rfl
            rw [hfst] at hy
            have Hon : Hid (((xs.take (k + 1)).filter (ctlB L d)).map (outX L true) = pre ++ [outX L true i]) := by
              show _ = _
              rw [Hsn.out, Hct.out, hon, Hty1.out]
              simp
            clear hon hfst hY
            gi_wp2_with fail
            refine hRd.mono ?_
            rintro e W3 (⟨rfl, hJ3, hk3⟩ | ⟨rfl, hJx3⟩)
            · have HJ' : Hid (J (((xs.take (k + 1)).filter (ctlB L d)).map (outX L true)) W3) := by
                show J _ _
                rw [Hon.out]
                exact hJ3
              have HK3 : Hid (Kept n₀ B W W3) := HK1.out.trans hk3
              clear hJ3 hk3
              gi_wp2_with fail
              go_roundw
              case rel => first | exact ⟨k + 1, by omega, by go_num, HJ', HK3⟩ | ((repeat apply Exists.intro); refine ⟨?_, rfl⟩; exact ⟨k + 1, by omega, by go_num, HJ', HK3⟩)
              case measure => simp [intOf]; omega
            · have HJX : Hid (Jx (pre ++ [outX L true i]) W3) := hJx3
              clear hJx3
              gi_wp2_with fail
              refine bodyPost_ret (results_none rfl _ _ _) rfl ?_
              exact ⟨⟨_, rfl⟩, .inr ⟨_, trivial, HJX.out⟩⟩
      · have hkl : k = xs.length := by omega
        gi_wp2_with fail
        go_end0
        refine ⟨⟨_, rfl⟩, .inl ⟨_, rfl, ?_⟩⟩
        unfold outs
        rw [← HXS.out]
        rw [hkl, List.take_length] at hJs
        exact hJs.out
end Go.Proofs.YbulkcfwsFmt
