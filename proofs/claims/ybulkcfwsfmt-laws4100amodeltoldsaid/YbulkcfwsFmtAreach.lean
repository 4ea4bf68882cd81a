import Derived.Test.YbulkcfwsFmtReach0
import Derived.Deep.DrawnRows
import Derived.BigRegion
namespace Go.Proofs.YbulkcfwsFmt
open Go.RowKit

def srcOf (L : List Rel) (up : Bool) (i : Nat) : Nat := if up then (L.getD i r0).to else (L.getD i r0).fr

/-- One relation of the model's pass. -/
def stepIn (L : List Rel) (d : Int) (up : Bool) (c i : Nat) (In : Nat → Bool) : Nat → Bool :=
  if (ctlB L d i && In (srcOf L up i) && (srcOf L up i != 0 || srcOf L up i == c)) = true then fun q => if q = otherOf L up i then true else In q else In
def passIn (L : List Rel) (d : Int) (up : Bool) (c : Nat) (In : Nat → Bool) : Nat → Nat → Bool
  | 0 => In
  | k + 1 => stepIn L d up c k (passIn L d up c In k)
def roundIn (L : List Rel) (d : Int) (up : Bool) (c : Nat) : Nat → Nat → Bool
  | 0 => fun q => q == c
  | r + 1 => passIn L d up c (roundIn L d up c r) L.length

/-- Seven bools in a block. -/
structure Arr (W : World) (b : Nat) (In : Nat → Bool) : Prop where
  lt : b < W.heap.size
  cell : ∀ q, q < 7 → W.cell? ⟨b, q, none⟩ = some (.bool (In q))
  frozen : ∀ q, W.frozen? ⟨b, q, none⟩ = false

theorem Arr.set {W : World} {b : Nat} {In : Nat → Bool} (h : Arr W b In) {q : Nat} (hq : q < 7) (v : Bool) : Arr (W.setCell ⟨b, q, none⟩ (.bool v)) b (fun x => if x = q then v else In x) := by
  refine ⟨by simpa [World.setCell] using h.lt, fun x hx => ?_, fun x => by rw [World.frozen?_setCell]; exact h.frozen x⟩
  by_cases e : x = q
  · subst e
    rw [World.cell?_setCell_same' _ _ _ (by rw [h.cell x hx]; rfl)]
    simp
  · rw [World.cell?_setCell_other (w := W) (a := ⟨b, q, none⟩) (b := ⟨b, x, none⟩) _ (fun e' => e (by have := congrArg Addr.off e'; simpa using this.symm)), h.cell x hx]
    simp [e]

theorem Arr.drew {W : World} {b : Nat} {In : Nat → Bool} (h : Arr W b In) : Arr W.drew b In := ⟨h.lt, h.cell, h.frozen⟩

theorem Arr.far {W : World} {b b' j : Nat} {In : Nat → Bool} {u : Value} (h : Arr W b In) (hne : b ≠ b') : Arr (W.setCell ⟨b', j, none⟩ u) b In := by
  have e := Below.heap_setCell W ⟨b', j, none⟩ u b hne
  exact ⟨by simpa [World.setCell] using h.lt, fun q hq => by rw [cell_of_heap e]; exact h.cell q hq, fun q => by rw [World.frozen?_of_block (w := W) (a := ⟨b, q, none⟩) e]; exact h.frozen q⟩

theorem areach_start (w : World) (c : Nat) (hc : c < 7) : Arr ((w.alloc (.cells #[.bool false, .bool false, .bool false, .bool false, .bool false, .bool false, .bool false] 63)).alloc (.cells ([Value.bool false, .bool false, .bool false, .bool false, .bool false, .bool false, .bool false].set c (.bool true)).toArray 63)) w.heap.size (fun _ => false) ∧ Arr ((w.alloc (.cells #[.bool false, .bool false, .bool false, .bool false, .bool false, .bool false, .bool false] 63)).alloc (.cells ([Value.bool false, .bool false, .bool false, .bool false, .bool false, .bool false, .bool false].set c (.bool true)).toArray 63)) (w.heap.size + 1) (fun q => q == c) ∧ Below w.heap.size w ((w.alloc (.cells #[.bool false, .bool false, .bool false, .bool false, .bool false, .bool false, .bool false] 63)).alloc (.cells ([Value.bool false, .bool false, .bool false, .bool false, .bool false, .bool false, .bool false].set c (.bool true)).toArray 63)) := by
  have h1 : (((w.alloc (.cells #[.bool false, .bool false, .bool false, .bool false, .bool false, .bool false, .bool false] 63)).alloc (.cells ([Value.bool false, .bool false, .bool false, .bool false, .bool false, .bool false, .bool false].set c (.bool true)).toArray 63))).heap[w.heap.size]? = some (.cells #[.bool false, .bool false, .bool false, .bool false, .bool false, .bool false, .bool false] 63) := (Below.heap_alloc _ _ _ (by simp)).trans (World.alloc_heap_new w _)
  have h2 : (((w.alloc (.cells #[.bool false, .bool false, .bool false, .bool false, .bool false, .bool false, .bool false] 63)).alloc (.cells ([Value.bool false, .bool false, .bool false, .bool false, .bool false, .bool false, .bool false].set c (.bool true)).toArray 63))).heap[w.heap.size + 1]? = some (.cells ([Value.bool false, .bool false, .bool false, .bool false, .bool false, .bool false, .bool false].set c (.bool true)).toArray 63) := by
    have := World.alloc_heap_new (w.alloc (.cells #[.bool false, .bool false, .bool false, .bool false, .bool false, .bool false, .bool false] 63)) (.cells ([Value.bool false, .bool false, .bool false, .bool false, .bool false, .bool false, .bool false].set c (.bool true)).toArray 63)
    simpa using this
  refine ⟨⟨by simp; omega, fun q hq => ?_, fun q => by unfold World.frozen?; rw [h1]; simp⟩, ⟨by simp, fun q hq => ?_, fun q => by unfold World.frozen?; rw [h2]; simp⟩, ((Below.refl _ w).alloc (Nat.le_refl _) _).alloc (by simp) _⟩
  · unfold World.cell?
    rw [h1]
    rcases lt7 hq with rfl | rfl | rfl | rfl | rfl | rfl | rfl <;> rfl
  · unfold World.cell?
    rw [h2]
    rcases lt7 hc with rfl | rfl | rfl | rfl | rfl | rfl | rfl <;> rcases lt7 hq with rfl | rfl | rfl | rfl | rfl | rfl | rfl <;> rfl

theorem flat1 {n : Nat} {f : Nat → Value} {k : Nat} (hk : k < n) : (flat n fun i => [f i])[k]? = some (f k) := by
  have := flat_get (m := 1) (n := n) (f := fun i => [f i]) (fun _ _ => rfl) hk (by decide : 0 < 1)
  simpa using this

set_option maxRecDepth 100000 in
set_option maxHeartbeats 4000000 in
theorem areach_any {ok1 ok2 ok3 : Nat → Prop} (L : List Rel) (d : Int) (up : Bool) (c : Nat) (fv tv kv : Value) (w : World) (hL : L.length ≤ 32) (hg : ∀ i, i < L.length → (L.getD i r0).ok) (hc : c < 7)
    (hf : Row ok1 w fv L.length 1 (flat L.length fun i => [.int .i64 ((L.getD i r0).fr : Nat)])) (ht : Row ok2 w tv L.length 1 (flat L.length fun i => [.int .i64 ((L.getD i r0).to : Nat)])) (hk : Row ok3 w kv L.length 1 (flat L.length fun i => [.bool (ctlB L d i)])) :
    Calls Ybaf.prog 16 #[fv, tv, kv, .int .i64 c, .bool up] w fun e w' => e = .returned (.agg #[.bool (roundIn L d up c 7 0), .bool (roundIn L d up c 7 1), .bool (roundIn L d up c 7 2), .bool (roundIn L d up c 7 3), .bool (roundIn L d up c 7 4), .bool (roundIn L d up c 7 5), .bool (roundIn L d up c 7 6)]) ∧ Below w.heap.size w w' := by
  have HF : Hid (Row ok1 w fv L.length 1 (flat L.length fun i => [.int .i64 ((L.getD i r0).fr : Nat)])) := hf
  have HT : Hid (Row ok2 w tv L.length 1 (flat L.length fun i => [.int .i64 ((L.getD i r0).to : Nat)])) := ht
  have HK : Hid (Row ok3 w kv L.length 1 (flat L.length fun i => [.bool (ctlB L d i)])) := hk
  have HG : Hid (∀ i, i < L.length → (L.getD i r0).ok) := hg
  obtain ⟨fa, fc, rfl⟩ := hf.form
  obtain ⟨ta, tc, rfl⟩ := ht.form
  obtain ⟨ka, kc, rfl⟩ := hk.form
  clear hf ht hk hg
  go_enter Ybaf.func16, Ybaf.ntmps16
  go_wp2_with fail
  obtain ⟨hA0, hA1, hb0⟩ := areach_start w c hc
  generalize ((w.alloc (.cells #[.bool false, .bool false, .bool false, .bool false, .bool false, .bool false, .bool false] 63)).alloc (.cells ([Value.bool false, .bool false, .bool false, .bool false, .bool false, .bool false, .bool false].set c (.bool true)).toArray 63)) = w0 at *
  have HA0 : Hid (Arr w0 w.heap.size (fun _ => false)) := hA0
  have HA1 : Hid (Arr w0 (w.heap.size + 1) (fun q => q == c)) := hA1
  have HB0 : Hid (Below w.heap.size w w0) := hb0
  clear hA0 hA1 hb0
  go_loopw [12] (fun i wr => ∃ r : Nat, r ≤ 7 ∧ i = .int .i64 r ∧ Hid (Arr wr w.heap.size (fun _ => false)) ∧ Hid (Arr wr (w.heap.size + 1) (roundIn L d up c r)) ∧ Hid (Below w.heap.size w wr)) (fun i _ => 7 - (intOf i).toNat)
  case atStart => exact ⟨0, by omega, rfl, HA0, HA1, HB0⟩
  case round =>
    obtain ⟨r, hr, rfl, hA, hI, hb⟩ := hrel
    by_cases hlt : r < 7
    · obtain ⟨wk, rfl⟩ : ∃ wk : World, wk = wr := ⟨_, rfl⟩
      have hri : (r : Int) < 7 := by omega
      go_wp2_with fail
      go_loopw [13] (fun i wr => ∃ k : Nat, k ≤ L.length ∧ i = .int .i64 k ∧ Hid (Arr wr w.heap.size (fun _ => false)) ∧ Hid (Arr wr (w.heap.size + 1) (passIn L d up c (roundIn L d up c r) k)) ∧ Hid (Below w.heap.size w wr)) (fun i _ => L.length - (intOf i).toNat)
      case atStart => exact ⟨0, by omega, rfl, hA, hI, hb⟩
      case round =>
        obtain ⟨k, hk, rfl, hA2, hI2, hb2⟩ := hrel
        by_cases hltk : k < L.length
        · obtain ⟨fb, foff, fcap, hfe, -, hfb, hfc⟩ := HF.out.cell (by omega)
          obtain ⟨tb, toff, tcap, hte, -, htb, htc⟩ := HT.out.cell (by omega)
          obtain ⟨kb, koff, kcap, hke, -, hkb, hkc⟩ := HK.out.cell (by omega)
          simp only [Value.slice.injEq, true_and] at hfe hte hke
          obtain ⟨rfl, rfl⟩ := hfe
          obtain ⟨rfl, rfl⟩ := hte
          obtain ⟨rfl, rfl⟩ := hke
          have y1 : wr.cell? ⟨fb, foff + k, none⟩ = some (.int .i64 ((L.getD k r0).fr : Nat)) := (hb2.out.cell (p := ⟨fb, foff + k, none⟩) hfb).trans (hfc k _ (flat1 hltk))
          have y2 : wr.cell? ⟨tb, toff + k, none⟩ = some (.int .i64 ((L.getD k r0).to : Nat)) := (hb2.out.cell (p := ⟨tb, toff + k, none⟩) htb).trans (htc k _ (flat1 hltk))
          have y3 : wr.cell? ⟨kb, koff + k, none⟩ = some (.bool (ctlB L d k)) := (hb2.out.cell (p := ⟨kb, koff + k, none⟩) hkb).trans (hkc k _ (flat1 hltk))
          obtain ⟨-, hfr, hto, -, -⟩ := HG.out k hltk
          have hsrc : srcOf L up k < 6 := by unfold srcOf; split <;> omega
          have hdst : otherOf L up k < 6 := by unfold otherOf; split <;> omega
          have z1 : wr.cell? ⟨w.heap.size + 1, srcOf L up k, none⟩ = some (.bool (passIn L d up c (roundIn L d up c r) k (srcOf L up k))) := hI2.out.cell _ (by omega)
          have z2 : wr.cell? ⟨w.heap.size + 1, otherOf L up k, none⟩ = some (.bool (passIn L d up c (roundIn L d up c r) k (otherOf L up k))) := hI2.out.cell _ (by omega)
          have z3 : wr.frozen? ⟨w.heap.size + 1, otherOf L up k, none⟩ = false := hI2.out.frozen _
          have l1 := hI2.out.lt
          have Hst : Hid (passIn L d up c (roundIn L d up c r) (k + 1) = if (ctlB L d k && passIn L d up c (roundIn L d up c r) k (srcOf L up k) && (srcOf L up k != 0 || srcOf L up k == c)) = true then fun q => if q = otherOf L up k then true else passIn L d up c (roundIn L d up c r) k q else passIn L d up c (roundIn L d up c r) k) := rfl
          have Hset : Hid (Arr (wr.setCell ⟨w.heap.size + 1, otherOf L up k, none⟩ (.bool true)) (w.heap.size + 1) (fun q => if q = otherOf L up k then true else passIn L d up c (roundIn L d up c r) k q)) := hI2.out.set (by omega) true
          obtain ⟨P, hP⟩ : ∃ P, passIn L d up c (roundIn L d up c r) k = P := ⟨_, rfl⟩
          rw [hP] at z1 z2 hI2
          have HP : Hid (passIn L d up c (roundIn L d up c r) k = P) := hP
          rw [hP] at Hst Hset
          obtain ⟨ct, hct⟩ : ∃ ct, ctlB L d k = ct := ⟨_, rfl⟩
          rw [hct] at y3 Hst
          clear hP hct hfc htc hkc
          cases ct
          · have HI3 : Hid (Arr wr (w.heap.size + 1) (passIn L d up c (roundIn L d up c r) (k + 1))) := by
              show Arr ..
              rw [Hst.out]
              simpa using hI2.out
            go_wp2_with fail
            go_roundw
            case rel => first | exact ⟨k + 1, by omega, by go_num, hA2, HI3, hb2⟩ | ((repeat apply Exists.intro); refine ⟨?_, rfl⟩; exact ⟨k + 1, by omega, by go_num, hA2, HI3, hb2⟩)
            case measure => simp [intOf]; omega
          · cases up
            · have e1 : srcOf L false k = (L.getD k r0).fr := rfl
              have e2 : otherOf L false k = (L.getD k r0).to := rfl
              rw [e1] at z1 Hst hsrc
              rw [e2] at z2 z3 Hst Hset hdst
              clear e1 e2
              generalize (L.getD k r0).fr = sr at *
              generalize (L.getD k r0).to = de at *
              go_wp2_with fail
              go_region
              obtain ⟨wd, hwd⟩ : ∃ wd, wd = wr.drew := ⟨_, rfl⟩
              rw [← hwd]
              have d1 : wd.cell? ⟨w.heap.size + 1, sr, none⟩ = some (.bool (P sr)) := by rw [hwd]; exact z1
              have d2 : wd.cell? ⟨w.heap.size + 1, de, none⟩ = some (.bool (P de)) := by rw [hwd]; exact z2
              have d3 : wd.frozen? ⟨w.heap.size + 1, de, none⟩ = false := by rw [hwd]; exact z3
              have HA4 : Hid (Arr wd w.heap.size (fun _ => false)) := by rw [hwd]; exact ⟨hA2.out.lt, hA2.out.cell, hA2.out.frozen⟩
              have HI4 : Hid (Arr wd (w.heap.size + 1) P) := by rw [hwd]; exact ⟨hI2.out.lt, hI2.out.cell, hI2.out.frozen⟩
              have HB4 : Hid (Below w.heap.size w wd) := by rw [hwd]; exact ⟨hb2.out.os, hb2.out.tape, hb2.out.output, hb2.out.size, hb2.out.block⟩
              have l4 : w.heap.size + 1 < wd.heap.size := HI4.out.lt
              have HA5 : Hid (Arr (wd.setCell ⟨w.heap.size + 1, de, none⟩ (.bool true)) w.heap.size (fun _ => false)) := HA4.out.far (by omega)
              have HI5 : Hid (Arr (wd.setCell ⟨w.heap.size + 1, de, none⟩ (.bool true)) (w.heap.size + 1) (fun q => if q = de then true else P q)) := HI4.out.set (by omega) true
              have HB5 : Hid (Below w.heap.size w (wd.setCell ⟨w.heap.size + 1, de, none⟩ (.bool true))) := HB4.out.setCell (by simp) _
              clear hwd y1 y2 y3 z1 z2 z3 Hset l1 hA2 hI2 hb2
              cases hps : P sr
              · rw [hps] at d1
                have HI6 : Hid (Arr wd (w.heap.size + 1) (passIn L d false c (roundIn L d false c r) (k + 1))) := by
                  show Arr ..
                  rw [Hst.out, hps]
                  simpa using HI4.out
                clear hps
                go_wp2_with fail
                all_goals try exact (undef_ne (by assumption)).elim
                go_roundw
                case rel => first | exact ⟨k + 1, by omega, by go_num, HA4, HI6, HB4⟩ | ((repeat apply Exists.intro); refine ⟨?_, rfl⟩; exact ⟨k + 1, by omega, by go_num, HA4, HI6, HB4⟩)
                case measure => simp [intOf]; omega
              · rw [hps] at d1
                have Hps : Hid (P sr = true) := hps
                clear hps
                by_cases hs0 : sr = 0
                · subst hs0
                  by_cases hsc : c = 0
                  · subst hsc
                    have HI6 : Hid (Arr (wd.setCell ⟨w.heap.size + 1, de, none⟩ (.bool true)) (w.heap.size + 1) (passIn L d false 0 (roundIn L d false 0 r) (k + 1))) := by
                      show Arr ..
                      rw [Hst.out, Hps.out]
                      simpa using HI5.out
                    go_wp2_with fail
                    all_goals try exact (undef_ne (by assumption)).elim
                    go_roundw
                    case rel => first | exact ⟨k + 1, by omega, by go_num, HA5, HI6, HB5⟩ | ((repeat apply Exists.intro); refine ⟨?_, rfl⟩; exact ⟨k + 1, by omega, by go_num, HA5, HI6, HB5⟩)
                    case measure => simp [intOf]; omega
                  · have HI6 : Hid (Arr wd (w.heap.size + 1) (passIn L d false c (roundIn L d false c r) (k + 1))) := by
                      show Arr ..
                      rw [Hst.out, Hps.out]
                      have hz : ¬ 0 = c := fun e => hsc e.symm
                      simpa [hz] using HI4.out
                    have hsc1 : ((0 : Int) == (c : Int)) = false := by simp; omega
                    have hsc2 : ¬ (0 : Int) = (c : Int) := by omega
                    go_wp2_with fail
                    all_goals try exact (undef_ne (by assumption)).elim
                    go_roundw
                    case rel => first | exact ⟨k + 1, by omega, by go_num, HA4, HI6, HB4⟩ | ((repeat apply Exists.intro); refine ⟨?_, rfl⟩; exact ⟨k + 1, by omega, by go_num, HA4, HI6, HB4⟩)
                    case measure => simp [intOf]; omega
                · have HI6 : Hid (Arr (wd.setCell ⟨w.heap.size + 1, de, none⟩ (.bool true)) (w.heap.size + 1) (passIn L d false c (roundIn L d false c r) (k + 1))) := by
                    show Arr ..
                    rw [Hst.out, Hps.out]
                    simpa [hs0] using HI5.out
                  have hs0' : ((sr : Int) == 0) = false := by simp; omega
                  clear hs0
                  go_wp2_with fail
                  all_goals try exact (undef_ne (by assumption)).elim
                  go_roundw
                  case rel => first | exact ⟨k + 1, by omega, by go_num, HA5, HI6, HB5⟩ | ((repeat apply Exists.intro); refine ⟨?_, rfl⟩; exact ⟨k + 1, by omega, by go_num, HA5, HI6, HB5⟩)
                  case measure => simp [intOf]; omega
            · have e1 : srcOf L true k = (L.getD k r0).to := rfl
              have e2 : otherOf L true k = (L.getD k r0).fr := rfl
              rw [e1] at z1 Hst hsrc
              rw [e2] at z2 z3 Hst Hset hdst
              clear e1 e2
              generalize (L.getD k r0).to = sr at *
              generalize (L.getD k r0).fr = de at *
              go_wp2_with fail
              go_region
              go_wp2_with fail
              go_region
              obtain ⟨wd, hwd⟩ : ∃ wd, wd = wr.drew.drew := ⟨_, rfl⟩
              rw [← hwd]
              have d1 : wd.cell? ⟨w.heap.size + 1, sr, none⟩ = some (.bool (P sr)) := by rw [hwd]; exact z1
              have d2 : wd.cell? ⟨w.heap.size + 1, de, none⟩ = some (.bool (P de)) := by rw [hwd]; exact z2
              have d3 : wd.frozen? ⟨w.heap.size + 1, de, none⟩ = false := by rw [hwd]; exact z3
              have HA4 : Hid (Arr wd w.heap.size (fun _ => false)) := by rw [hwd]; exact ⟨hA2.out.lt, hA2.out.cell, hA2.out.frozen⟩
              have HI4 : Hid (Arr wd (w.heap.size + 1) P) := by rw [hwd]; exact ⟨hI2.out.lt, hI2.out.cell, hI2.out.frozen⟩
              have HB4 : Hid (Below w.heap.size w wd) := by rw [hwd]; exact ⟨hb2.out.os, hb2.out.tape, hb2.out.output, hb2.out.size, hb2.out.block⟩
              have l4 : w.heap.size + 1 < wd.heap.size := HI4.out.lt
              have HA5 : Hid (Arr (wd.setCell ⟨w.heap.size + 1, de, none⟩ (.bool true)) w.heap.size (fun _ => false)) := HA4.out.far (by omega)
              have HI5 : Hid (Arr (wd.setCell ⟨w.heap.size + 1, de, none⟩ (.bool true)) (w.heap.size + 1) (fun q => if q = de then true else P q)) := HI4.out.set (by omega) true
              have HB5 : Hid (Below w.heap.size w (wd.setCell ⟨w.heap.size + 1, de, none⟩ (.bool true))) := HB4.out.setCell (by simp) _
              clear hwd y1 y2 y3 z1 z2 z3 Hset l1 hA2 hI2 hb2
              cases hps : P sr
              · rw [hps] at d1
                have HI6 : Hid (Arr wd (w.heap.size + 1) (passIn L d true c (roundIn L d true c r) (k + 1))) := by
                  show Arr ..
                  rw [Hst.out, hps]
                  simpa using HI4.out
                clear hps
                go_wp2_with fail
                all_goals try exact (undef_ne (by assumption)).elim
                go_roundw
                case rel => first | exact ⟨k + 1, by omega, by go_num, HA4, HI6, HB4⟩ | ((repeat apply Exists.intro); refine ⟨?_, rfl⟩; exact ⟨k + 1, by omega, by go_num, HA4, HI6, HB4⟩)
                case measure => simp [intOf]; omega
              · rw [hps] at d1
                have Hps : Hid (P sr = true) := hps
                clear hps
                by_cases hs0 : sr = 0
                · subst hs0
                  by_cases hsc : c = 0
                  · subst hsc
                    have HI6 : Hid (Arr (wd.setCell ⟨w.heap.size + 1, de, none⟩ (.bool true)) (w.heap.size + 1) (passIn L d true 0 (roundIn L d true 0 r) (k + 1))) := by
                      show Arr ..
                      rw [Hst.out, Hps.out]
                      simpa using HI5.out
                    go_wp2_with fail
                    all_goals try exact (undef_ne (by assumption)).elim
                    go_roundw
                    case rel => first | exact ⟨k + 1, by omega, by go_num, HA5, HI6, HB5⟩ | ((repeat apply Exists.intro); refine ⟨?_, rfl⟩; exact ⟨k + 1, by omega, by go_num, HA5, HI6, HB5⟩)
                    case measure => simp [intOf]; omega
                  · have HI6 : Hid (Arr wd (w.heap.size + 1) (passIn L d true c (roundIn L d true c r) (k + 1))) := by
                      show Arr ..
                      rw [Hst.out, Hps.out]
                      have hz : ¬ 0 = c := fun e => hsc e.symm
                      simpa [hz] using HI4.out
                    have hsc1 : ((0 : Int) == (c : Int)) = false := by simp; omega
                    have hsc2 : ¬ (0 : Int) = (c : Int) := by omega
                    go_wp2_with fail
                    all_goals try exact (undef_ne (by assumption)).elim
                    go_roundw
                    case rel => first | exact ⟨k + 1, by omega, by go_num, HA4, HI6, HB4⟩ | ((repeat apply Exists.intro); refine ⟨?_, rfl⟩; exact ⟨k + 1, by omega, by go_num, HA4, HI6, HB4⟩)
                    case measure => simp [intOf]; omega
                · have HI6 : Hid (Arr (wd.setCell ⟨w.heap.size + 1, de, none⟩ (.bool true)) (w.heap.size + 1) (passIn L d true c (roundIn L d true c r) (k + 1))) := by
                    show Arr ..
                    rw [Hst.out, Hps.out]
                    simpa [hs0] using HI5.out
                  have hs0' : ((sr : Int) == 0) = false := by simp; omega
                  clear hs0
                  go_wp2_with fail
                  all_goals try exact (undef_ne (by assumption)).elim
                  go_roundw
                  case rel => first | exact ⟨k + 1, by omega, by go_num, HA5, HI6, HB5⟩ | ((repeat apply Exists.intro); refine ⟨?_, rfl⟩; exact ⟨k + 1, by omega, by go_num, HA5, HI6, HB5⟩)
                  case measure => simp [intOf]; omega
        · have hkl : k = L.length := by omega
          have HI6 : Hid (Arr wr (w.heap.size + 1) (roundIn L d up c (r + 1))) := by
            rw [hkl] at hI2
            exact hI2
          clear hkl hI2
          go_wp2_with fail
          go_roundw
          case rel => first | exact ⟨r + 1, by omega, by go_num, hA2, HI6, hb2⟩ | ((repeat apply Exists.intro); refine ⟨?_, rfl⟩; exact ⟨r + 1, by omega, by go_num, hA2, HI6, hb2⟩)
          case measure => simp [intOf]; omega
    · have hr7 : r = 7 := by omega
      subst hr7
      have p0 := hI.out.cell 0 (by omega)
      have p1 := hI.out.cell 1 (by omega)
      have p2 := hI.out.cell 2 (by omega)
      have p3 := hI.out.cell 3 (by omega)
      have p4 := hI.out.cell 4 (by omega)
      have p5 := hI.out.cell 5 (by omega)
      have p6 := hI.out.cell 6 (by omega)
      have q0 := hA.out.cell 0 (by omega)
      have q1 := hA.out.cell 1 (by omega)
      have q2 := hA.out.cell 2 (by omega)
      have q3 := hA.out.cell 3 (by omega)
      have q4 := hA.out.cell 4 (by omega)
      have q5 := hA.out.cell 5 (by omega)
      have q6 := hA.out.cell 6 (by omega)
      have g0 := hA.out.frozen 0
      have g1 := hA.out.frozen 1
      have g2 := hA.out.frozen 2
      have g3 := hA.out.frozen 3
      have g4 := hA.out.frozen 4
      have g5 := hA.out.frozen 5
      have g6 := hA.out.frozen 6
      have l0 := hA.out.lt
      generalize hP0 : roundIn L d up c 7 0 = P0 at *
      have HP0 : Hid (roundIn L d up c 7 0 = P0) := hP0
      clear hP0
      generalize hP1 : roundIn L d up c 7 1 = P1 at *
      have HP1 : Hid (roundIn L d up c 7 1 = P1) := hP1
      clear hP1
      generalize hP2 : roundIn L d up c 7 2 = P2 at *
      have HP2 : Hid (roundIn L d up c 7 2 = P2) := hP2
      clear hP2
      generalize hP3 : roundIn L d up c 7 3 = P3 at *
      have HP3 : Hid (roundIn L d up c 7 3 = P3) := hP3
      clear hP3
      generalize hP4 : roundIn L d up c 7 4 = P4 at *
      have HP4 : Hid (roundIn L d up c 7 4 = P4) := hP4
      clear hP4
      generalize hP5 : roundIn L d up c 7 5 = P5 at *
      have HP5 : Hid (roundIn L d up c 7 5 = P5) := hP5
      clear hP5
      generalize hP6 : roundIn L d up c 7 6 = P6 at *
      have HP6 : Hid (roundIn L d up c 7 6 = P6) := hP6
      clear hP6
      have HB7 : Hid (Below w.heap.size w wr) := hb.out
      clear hI hA hb
      go_wp2_with fail
      refine bodyPost_ret (by simp [results, Ybaf.results16, go_sem, World.cell?_setCell_same', World.cell?_setCell_other, q0, q1, q2, q3, q4, q5, q6]; try rfl) rfl ?_
      refine ⟨by rw [HP0.out, HP1.out, HP2.out, HP3.out, HP4.out, HP5.out, HP6.out], ?_⟩
      exact ((((((HB7.out.setCell (Nat.le_refl _) _).setCell (Nat.le_refl _) _).setCell (Nat.le_refl _) _).setCell (Nat.le_refl _) _).setCell (Nat.le_refl _) _).setCell (Nat.le_refl _) _).setCell (Nat.le_refl _) _
end Go.Proofs.YbulkcfwsFmt
