import Derived.Test.YbulkcfwsFmtAdd
import Derived.Deep.RegionLaw
import Derived.BigRegion
import Derived.Deep.RegionHeld3
namespace Go.Proofs.YbulkcfwsFmt
open Go.RowKit

theorem box10 {W : World} {b : Nat} {c0 c1 c2 c3 c4 c5 c6 c7 c8 c9 : Value} (h : W.heap[b]? = some (.cells #[c0, c1, c2, c3, c4, c5, c6, c7, c8, c9] 43)) : b < W.heap.size ∧ W.cell? ⟨b, 0, none⟩ = some c0 ∧ W.cell? ⟨b, 1, none⟩ = some c1 ∧ W.cell? ⟨b, 2, none⟩ = some c2 ∧ W.cell? ⟨b, 3, none⟩ = some c3 ∧ W.cell? ⟨b, 4, none⟩ = some c4 ∧ W.cell? ⟨b, 5, none⟩ = some c5 ∧ W.cell? ⟨b, 6, none⟩ = some c6 ∧ W.cell? ⟨b, 7, none⟩ = some c7 ∧ W.cell? ⟨b, 8, none⟩ = some c8 ∧ W.cell? ⟨b, 9, none⟩ = some c9 := by
  refine ⟨(Array.getElem?_eq_some_iff.1 h).1, ?_⟩
  simp [World.cell?, h]

/-- The register on its way: with the box of the relation that is recorded. -/
structure ST (K : Nat → Prop) (B : Nat) (W : World) (rb b1 b3 b4 b5 bx : Nat) (bxc : Array Value) (L2 : List Rel) (n3 : Nat) (L4 L5 : List Rel) (v2 : Value) (F4 F5 : Nat → Value) (W' : World) : Prop where
  reg : RegS B W' rb b1 b3 b4 b5 v2 F4 F5 L2 n3 L4 L5
  box : W'.heap[bx]? = some (.cells bxc 43)
  bel : Below B W W'
  own : ∀ i g, i < 15 → ownOf v2 F4 F5 i = some g → g ≠ bx
  lo : B ≤ bx
  nb : bx ≠ rb
  far : ∀ b, K b → b < W.heap.size ∧ W'.heap[b]? = W.heap[b]? ∧ b ≠ rb ∧ b ≠ b3 ∧ b ≠ b4 ∧ b ≠ b5 ∧ ∀ i g, i < 15 → ownOf v2 F4 F5 i = some g → g ≠ b

variable {K : Nat → Prop} {B : Nat} {W W' : World} {rb b1 b3 b4 b5 bx : Nat} {bxc : Array Value} {L2 : List Rel} {n3 : Nat} {L4 L5 : List Rel} {v2 : Value} {F4 F5 : Nat → Value}

theorem ST.drew (h : ST K B W rb b1 b3 b4 b5 bx bxc L2 n3 L4 L5 v2 F4 F5 W') : ST K B W rb b1 b3 b4 b5 bx bxc L2 n3 L4 L5 v2 F4 F5 W'.drew := ⟨h.reg.drew, h.box, h.bel.drew, h.own, h.lo, h.nb, h.far⟩

theorem ST.alloc (h : ST K B W rb b1 b3 b4 b5 bx bxc L2 n3 L4 L5 v2 F4 F5 W') (hB : B ≤ W.heap.size) (o : Obj) : ST K B W rb b1 b3 b4 b5 bx bxc L2 n3 L4 L5 v2 F4 F5 (W'.alloc o) :=
  ⟨h.reg.alloc o, (Below.heap_alloc _ _ _ (Array.getElem?_eq_some_iff.1 h.box).1).trans h.box, h.bel.alloc (Nat.le_trans hB h.bel.size) o, h.own, h.lo, h.nb, fun b hb => by
    obtain ⟨f1, f2, f3⟩ := h.far b hb
    exact ⟨f1, (Below.heap_alloc _ _ _ (Nat.lt_of_lt_of_le f1 h.bel.size)).trans f2, f3⟩⟩

theorem ownOf4 (v2 : Value) (F4 F5 : Nat → Value) (p : Nat) (hp : p < 7) : ownOf v2 F4 F5 (p + 1) = (F4 p).ownBlock := by
  unfold ownOf; rw [if_neg (by omega), if_pos (by omega)]; rfl

theorem ownOf5 (v2 : Value) (F4 F5 : Nat → Value) (p : Nat) (hp : p < 7) : ownOf v2 F4 F5 (p + 8) = (F5 p).ownBlock := by
  unfold ownOf; rw [if_neg (by omega), if_neg (by omega)]; rfl

theorem ST.two {Wg : World} {g cap : Nat} {x : Rel} {o : Obj} (h : ST K B W rb b1 b3 b4 b5 bx bxc L2 n3 L4 L5 v2 F4 F5 W') (hB : B ≤ W.heap.size)
    (hown : Wg.ownsRow B 43 10 (.slice (some ⟨g, 0, none⟩) (L2.length + 1) cap) (L2.length + 1) ((flat L2.length fun i => relCells i (L2.getD i r0)) ++ relCells L2.length x)) (hg : (W'.alloc o).grownBy Wg v2.ownBlock) (hat : v2.ownBlock = some g ∨ g = W'.heap.size + 1) :
    ST K B W rb b1 b3 b4 b5 bx bxc (L2 ++ [x]) n3 L4 L5 (.slice (some ⟨g, 0, none⟩) (L2.length + 1) cap) F4 F5 (Wg.setCell ⟨rb, 2, none⟩ (.slice (some ⟨g, 0, none⟩) (L2.length + 1) cap)) := by
  have hs : (W'.alloc o).heap.size = W'.heap.size + 1 := by simp
  have hbl := (Array.getElem?_eq_some_iff.1 h.box).1
  have hlo : ∀ k, v2.ownBlock = some k → B ≤ k := fun k e => (h.reg.own2.lt k e).1
  refine ⟨h.reg.add2 (o := o) rfl hown hg (by rw [hs]; exact hat), ?_, ?_, ?_, h.lo, h.nb, ?_⟩
  · exact (Below.heap_setCell _ _ _ _ h.nb).trans ((hg.block bx (by omega) (fun e => h.own 0 bx (by decide) e.symm rfl)).trans ((Below.heap_alloc _ _ _ hbl).trans h.box))
  · have h1 := (h.alloc hB o).bel.grown hg (by have := h.bel.size; rw [hs]; omega) hlo
    exact h1.setCell h.reg.lo.1 _
  · intro i g' hi e e'
    subst e'
    by_cases i0 : i = 0
    · subst i0
      have eg : g = g' := by simpa [ownOf, Value.ownBlock] using e
      rcases hat with e1 | e1
      · exact h.own 0 g (by decide) e1 (by omega)
      · omega
    · have : ownOf v2 F4 F5 i = some g' := by
        rw [← e]
        unfold ownOf
        rw [if_neg i0, if_neg i0]
      exact h.own i g' hi this rfl
  · intro b hb
    obtain ⟨f1, f2, f3, f4, f5, f6, f7⟩ := h.far b hb
    have hlt := h.bel.size
    refine ⟨f1, (Below.heap_setCell _ _ _ _ f3).trans ((hg.block b (by omega) (fun e => f7 0 b (by decide) e.symm rfl)).trans ((Below.heap_alloc _ _ _ (by omega)).trans f2)), f3, f4, f5, f6, ?_⟩
    intro i g' hi e e'
    subst e'
    by_cases i0 : i = 0
    · subst i0
      have eg : g = g' := by simpa [ownOf, Value.ownBlock] using e
      rcases hat with e1 | e1
      · exact f7 0 g (by decide) e1 (by omega)
      · omega
    · have : ownOf v2 F4 F5 i = some g' := by
        rw [← e]
        unfold ownOf
        rw [if_neg i0, if_neg i0]
      exact f7 i g' hi this rfl

theorem ST.three {W1 : World} {F3 : Nat → Value} (h : ST K B W rb b1 b3 b4 b5 bx bxc L2 n3 L4 L5 v2 F4 F5 W') (hB : B ≤ W.heap.size) (hm : MapIs idOf 32 W1 b3 (n3 + 1) (.int .i64 0) F3 (fun q => if q = n3 then true else decide (q < n3))) (hg : W'.grownBy W1 (some b3)) :
    ST K B W rb b1 b3 b4 b5 bx bxc L2 (n3 + 1) L4 L5 v2 F4 F5 W1 := by
  have hbl := (Array.getElem?_eq_some_iff.1 h.box).1
  refine ⟨h.reg.add3 hm hg, (hg.block bx hbl (fun e => ?_)).trans h.box, h.bel.grown hg (Nat.le_trans hB h.bel.size) (fun k e => by cases e; exact h.reg.lo.2.2.1), h.own, h.lo, h.nb, fun b hb => by
    obtain ⟨f1, f2, f3, f4, f5, f6, f7⟩ := h.far b hb
    have hlt := h.bel.size
    exact ⟨f1, (hg.block b (by omega) (fun e => f4 (by cases e; rfl))).trans f2, f3, f4, f5, f6, f7⟩⟩
  cases e
  obtain ⟨F, hm⟩ := h.reg.m3
  obtain ⟨es, cl, hb⟩ := mapIs_obj hm
  have := h.box
  rw [hb] at this
  cases this

theorem ST.four {Wg W6 : World} {g cap q i : Nat} {x : Rel} {o : Obj} {n4 : Nat} {S4 : Nat → Bool} (h : ST K B W rb b1 b3 b4 b5 bx bxc L2 n3 L4 L5 v2 F4 F5 W') (hB : B ≤ W.heap.size) (hq : q < 7) (hx : x.fr = q) (hi : L4.length = i) (hn4 : n4 ≤ L4.length)
    (hown : Wg.ownsRow B 3 1 (.slice (some ⟨g, 0, none⟩) ((fromIdx L4 q).length + 1) cap) ((fromIdx L4 q).length + 1) (intsV (fromIdx L4 q) ++ [.int .i64 (i : Nat)])) (hg : (W'.alloc o).grownBy Wg (F4 q).ownBlock) (hat : (F4 q).ownBlock = some g ∨ g = W'.heap.size + 1)
    (hm : MapIs nameOf 7 W6 b4 (n4 + 1) (.slice none (0 : Nat) 0) (fun p => if p = q then .slice (some ⟨g, 0, none⟩) ((fromIdx L4 q).length + 1) cap else F4 p) S4) (hg6 : Wg.grownBy W6 (some b4)) :
    ST K B W rb b1 b3 b4 b5 bx bxc L2 n3 (L4 ++ [x]) L5 v2 (fun p => if p = q then .slice (some ⟨g, 0, none⟩) ((fromIdx L4 q).length + 1) cap else F4 p) F5 W6 := by
  have hs : (W'.alloc o).heap.size = W'.heap.size + 1 := by simp
  have hbl := (Array.getElem?_eq_some_iff.1 h.box).1
  have hlo : ∀ k, (F4 q).ownBlock = some k → B ≤ k := fun k e => ((h.reg.o4 q hq).lt k e).1
  have hnb : bx ≠ b4 := fun e => by
    obtain ⟨_, _, _, hm'⟩ := h.reg.m4
    obtain ⟨es, cl, hb⟩ := mapIs_obj hm'
    have := h.box
    rw [e, hb] at this
    cases this
  refine ⟨h.reg.add4 (o := o) hq hx hi rfl hn4 hown hg (by rw [hs]; exact hat) hm hg6, ?_, ?_, ?_, h.lo, h.nb, ?_⟩
  · refine (hg6.block bx (by have := hg.size; omega) (fun e => hnb (by cases e; rfl))).trans ((hg.block bx (by omega) (fun e => h.own (q + 1) bx (by omega) ((ownOf4 v2 F4 F5 q hq).trans e.symm) rfl)).trans ((Below.heap_alloc _ _ _ hbl).trans h.box))
  · have h1 := (h.alloc hB o).bel.grown hg (by have := h.bel.size; rw [hs]; omega) hlo
    exact h1.grown hg6 (by have := h1.size; omega) (fun k e => by cases e; exact h.reg.lo.2.2.2.1)
  · intro j g' hj e e'
    subst e'
    by_cases j0 : j = q + 1
    · subst j0
      have eg : g = g' := by
        rw [ownOf4 _ _ _ q hq] at e
        simpa [Value.ownBlock] using e
      rcases hat with e1 | e1
      · exact h.own (q + 1) g (by omega) ((ownOf4 v2 F4 F5 q hq).trans e1) (by omega)
      · omega
    · have : ownOf v2 F4 F5 j = some g' := by
        rw [← e]
        unfold ownOf
        split
        · rfl
        · split
          · show _ = (if j - 1 = q then _ else F4 (j - 1)).ownBlock
            rw [if_neg (by omega)]
          · rfl
      exact h.own j g' hj this rfl
  · intro b hb
    obtain ⟨f1, f2, f3, f4, f5, f6, f7⟩ := h.far b hb
    have hlt := h.bel.size
    refine ⟨f1, (hg6.block b (by have := hg.size; omega) (fun e => f5 (by cases e; rfl))).trans ((hg.block b (by omega) (fun e => f7 (q + 1) b (by omega) ((ownOf4 v2 F4 F5 q hq).trans e.symm) rfl)).trans ((Below.heap_alloc _ _ _ (by omega)).trans f2)), f3, f4, f5, f6, ?_⟩
    intro j g' hj e e'
    subst e'
    by_cases j0 : j = q + 1
    · subst j0
      have eg : g = g' := by
        rw [ownOf4 _ _ _ q hq] at e
        simpa [Value.ownBlock] using e
      rcases hat with e1 | e1
      · exact f7 (q + 1) g (by omega) ((ownOf4 v2 F4 F5 q hq).trans e1) (by omega)
      · omega
    · have : ownOf v2 F4 F5 j = some g' := by
        rw [← e]
        unfold ownOf
        split
        · rfl
        · split
          · show _ = (if j - 1 = q then _ else F4 (j - 1)).ownBlock
            rw [if_neg (by omega)]
          · rfl
      exact f7 j g' hj this rfl

theorem ST.five {Wg W6 : World} {g cap q i : Nat} {x : Rel} {o : Obj} {n4 : Nat} {S4 : Nat → Bool} (h : ST K B W rb b1 b3 b4 b5 bx bxc L2 n3 L4 L5 v2 F4 F5 W') (hB : B ≤ W.heap.size) (hq : q < 7) (hx : x.to = q) (hi : L5.length = i) (hn4 : n4 ≤ L5.length)
    (hown : Wg.ownsRow B 3 1 (.slice (some ⟨g, 0, none⟩) ((toIdx L5 q).length + 1) cap) ((toIdx L5 q).length + 1) (intsV (toIdx L5 q) ++ [.int .i64 (i : Nat)])) (hg : (W'.alloc o).grownBy Wg (F5 q).ownBlock) (hat : (F5 q).ownBlock = some g ∨ g = W'.heap.size + 1)
    (hm : MapIs nameOf 7 W6 b5 (n4 + 1) (.slice none (0 : Nat) 0) (fun p => if p = q then .slice (some ⟨g, 0, none⟩) ((toIdx L5 q).length + 1) cap else F5 p) S4) (hg6 : Wg.grownBy W6 (some b5)) :
    ST K B W rb b1 b3 b4 b5 bx bxc L2 n3 L4 (L5 ++ [x]) v2 F4 (fun p => if p = q then .slice (some ⟨g, 0, none⟩) ((toIdx L5 q).length + 1) cap else F5 p) W6 := by
  have hs : (W'.alloc o).heap.size = W'.heap.size + 1 := by simp
  have hbl := (Array.getElem?_eq_some_iff.1 h.box).1
  have hlo : ∀ k, (F5 q).ownBlock = some k → B ≤ k := fun k e => ((h.reg.o5 q hq).lt k e).1
  have hnb : bx ≠ b5 := fun e => by
    obtain ⟨_, _, _, hm'⟩ := h.reg.m5
    obtain ⟨es, cl, hb⟩ := mapIs_obj hm'
    have := h.box
    rw [e, hb] at this
    cases this
  refine ⟨h.reg.add5 (o := o) hq hx hi rfl hn4 hown hg (by rw [hs]; exact hat) hm hg6, ?_, ?_, ?_, h.lo, h.nb, ?_⟩
  · refine (hg6.block bx (by have := hg.size; omega) (fun e => hnb (by cases e; rfl))).trans ((hg.block bx (by omega) (fun e => h.own (q + 8) bx (by omega) ((ownOf5 v2 F4 F5 q hq).trans e.symm) rfl)).trans ((Below.heap_alloc _ _ _ hbl).trans h.box))
  · have h1 := (h.alloc hB o).bel.grown hg (by have := h.bel.size; rw [hs]; omega) hlo
    exact h1.grown hg6 (by have := h1.size; omega) (fun k e => by cases e; exact h.reg.lo.2.2.2.2)
  · intro j g' hj e e'
    subst e'
    by_cases j0 : j = q + 8
    · subst j0
      have eg : g = g' := by
        rw [ownOf5 _ _ _ q hq] at e
        simpa [Value.ownBlock] using e
      rcases hat with e1 | e1
      · exact h.own (q + 8) g (by omega) ((ownOf5 v2 F4 F5 q hq).trans e1) (by omega)
      · omega
    · have : ownOf v2 F4 F5 j = some g' := by
        rw [← e]
        unfold ownOf
        split
        · rfl
        · split
          · rfl
          · show _ = (if j - 8 = q then _ else F5 (j - 8)).ownBlock
            rw [if_neg (by omega)]
      exact h.own j g' hj this rfl
  · intro b hb
    obtain ⟨f1, f2, f3, f4, f5, f6, f7⟩ := h.far b hb
    have hlt := h.bel.size
    refine ⟨f1, (hg6.block b (by have := hg.size; omega) (fun e => f6 (by cases e; rfl))).trans ((hg.block b (by omega) (fun e => f7 (q + 8) b (by omega) ((ownOf5 v2 F4 F5 q hq).trans e.symm) rfl)).trans ((Below.heap_alloc _ _ _ (by omega)).trans f2)), f3, f4, f5, f6, ?_⟩
    intro j g' hj e e'
    subst e'
    by_cases j0 : j = q + 8
    · subst j0
      have eg : g = g' := by
        rw [ownOf5 _ _ _ q hq] at e
        simpa [Value.ownBlock] using e
      rcases hat with e1 | e1
      · exact f7 (q + 8) g (by omega) ((ownOf5 v2 F4 F5 q hq).trans e1) (by omega)
      · omega
    · have : ownOf v2 F4 F5 j = some g' := by
        rw [← e]
        unfold ownOf
        split
        · rfl
        · split
          · rfl
          · show _ = (if j - 8 = q then _ else F5 (j - 8)).ownBlock
            rw [if_neg (by omega)]
      exact f7 j g' hj this rfl

theorem ST.step4 {Wg : World} {g cap n4 : Nat} {x : Rel} {sN : ByteArray} {o : Obj} {S4 : Nat → Bool} (h : ST K B W rb b1 b3 b4 b5 bx bxc L2 n3 L4 L5 v2 F4 F5 W') (hB : B ≤ W.heap.size) (hq : x.fr < 7) (hsN : nameOf x.fr = sN) (hl : L4.length ≤ 32) (hn4 : n4 ≤ L4.length)
    (hm : MapIs nameOf 7 W' b4 n4 (.slice none (0 : Nat) 0) F4 S4) (hbx : bxc[2]? = some (.string sN))
    (hown : Wg.ownsRow B 3 1 (.slice (some ⟨g, 0, none⟩) ((fromIdx L4 x.fr).length + 1) cap) ((fromIdx L4 x.fr).length + 1) (intsV (fromIdx L4 x.fr) ++ [.int .i64 (L4.length : Nat)])) (hg : (W'.alloc o).grownBy Wg (F4 x.fr).ownBlock) (hat : (F4 x.fr).ownBlock = some g ∨ g = W'.heap.size + 1) :
    ∃ W6, (Instr.mapUpdate 70 (.map (some b4)) (.string sN) (.slice (some ⟨g, 0, none⟩) ((fromIdx L4 x.fr).length + 1) cap)).run Ybaf.prog Wg = .ok () W6 ∧ (∃ F', ST K B W rb b1 b3 b4 b5 bx bxc L2 n3 (L4 ++ [x]) L5 v2 F' F5 W6) ∧ Wg.cell? ⟨rb, 4, none⟩ = some (.map (some b4)) ∧ Wg.cell? ⟨bx, 2, none⟩ = some (.string sN) := by
  have hown1 : ∀ b, some b = (F4 x.fr).ownBlock → ownOf v2 F4 F5 (x.fr + 1) = some b := fun b e => (ownOf4 v2 _ _ x.fr (by omega)).trans e.symm
  have hmg := ((hm.kept (World.grownBy_alloc W' o none) (by simp)).kept hg (fun e => (h.reg.maps (i := x.fr + 1) (by omega) (hown1 _ e)).right.right.right.left rfl))
  obtain ⟨W6, hrun6, hM6, hg6⟩ := hmg.store nameOf_inj Ybaf.underlying70 (by unfold maxLen; omega) (p := x.fr) (by omega) (nameOf_size _) (.slice (some ⟨g, 0, none⟩) ((fromIdx L4 x.fr).length + 1) cap)
  rw [hsN] at hrun6
  obtain ⟨r0', r1, r2, r3, r4, r5, r6, r7, r8⟩ := h.reg.cells
  have hbl := (Array.getElem?_eq_some_iff.1 h.box).1
  refine ⟨W6, hrun6, ⟨_, h.four hB (q := x.fr) (x := x) (by omega) rfl rfl hn4 hown hg hat hM6 hg6⟩, ?_, ?_⟩
  · exact (hg.cell_far _ (by simp; omega) (fun e => (h.reg.maps (i := x.fr + 1) (by omega) (hown1 _ e)).1 rfl)).trans (cell_old _ r5)
  · refine (hg.cell_far _ (by simp; omega) (fun e => h.own (x.fr + 1) bx (by omega) (hown1 _ e) rfl)).trans (cell_old _ ?_)
    simp [World.cell?, h.box, hbx]

theorem ST.step5 {Wg : World} {g cap n4 : Nat} {x : Rel} {sN : ByteArray} {o : Obj} {S4 : Nat → Bool} (h : ST K B W rb b1 b3 b4 b5 bx bxc L2 n3 L4 L5 v2 F4 F5 W') (hB : B ≤ W.heap.size) (hq : x.to < 7) (hsN : nameOf x.to = sN) (hl : L5.length ≤ 32) (hn4 : n4 ≤ L5.length)
    (hm : MapIs nameOf 7 W' b5 n4 (.slice none (0 : Nat) 0) F5 S4) (hbx : bxc[3]? = some (.string sN))
    (hown : Wg.ownsRow B 3 1 (.slice (some ⟨g, 0, none⟩) ((toIdx L5 x.to).length + 1) cap) ((toIdx L5 x.to).length + 1) (intsV (toIdx L5 x.to) ++ [.int .i64 (L5.length : Nat)])) (hg : (W'.alloc o).grownBy Wg (F5 x.to).ownBlock) (hat : (F5 x.to).ownBlock = some g ∨ g = W'.heap.size + 1) :
    ∃ W6, (Instr.mapUpdate 70 (.map (some b5)) (.string sN) (.slice (some ⟨g, 0, none⟩) ((toIdx L5 x.to).length + 1) cap)).run Ybaf.prog Wg = .ok () W6 ∧ (∃ F', ST K B W rb b1 b3 b4 b5 bx bxc L2 n3 L4 (L5 ++ [x]) v2 F4 F' W6) ∧ Wg.cell? ⟨rb, 5, none⟩ = some (.map (some b5)) ∧ Wg.cell? ⟨bx, 3, none⟩ = some (.string sN) := by
  have hown1 : ∀ b, some b = (F5 x.to).ownBlock → ownOf v2 F4 F5 (x.to + 8) = some b := fun b e => (ownOf5 v2 _ _ x.to (by omega)).trans e.symm
  have hmg := ((hm.kept (World.grownBy_alloc W' o none) (by simp)).kept hg (fun e => (h.reg.maps (i := x.to + 8) (by omega) (hown1 _ e)).right.right.right.right rfl))
  obtain ⟨W6, hrun6, hM6, hg6⟩ := hmg.store nameOf_inj Ybaf.underlying70 (by unfold maxLen; omega) (p := x.to) (by omega) (nameOf_size _) (.slice (some ⟨g, 0, none⟩) ((toIdx L5 x.to).length + 1) cap)
  rw [hsN] at hrun6
  obtain ⟨r0', r1, r2, r3, r4, r5, r6, r7, r8⟩ := h.reg.cells
  have hbl := (Array.getElem?_eq_some_iff.1 h.box).1
  refine ⟨W6, hrun6, ⟨_, h.five hB (q := x.to) (x := x) (by omega) rfl rfl hn4 hown hg hat hM6 hg6⟩, ?_, ?_⟩
  · exact (hg.cell_far _ (by simp; omega) (fun e => (h.reg.maps (i := x.to + 8) (by omega) (hown1 _ e)).1 rfl)).trans (cell_old _ r6)
  · refine (hg.cell_far _ (by simp; omega) (fun e => h.own (x.to + 8) bx (by omega) (hown1 _ e) rfl)).trans (cell_old _ ?_)
    simp [World.cell?, h.box, hbx]


theorem ST.s4 {sN : ByteArray} (h : ST K B W rb b1 b3 b4 b5 bx bxc L2 n3 L4 L5 v2 F4 F5 W') (hb : bxc[2]? = some (.string sN)) : W'.cell? ⟨rb, 4, none⟩ = some (.map (some b4)) ∧ W'.cell? ⟨bx, 2, none⟩ = some (.string sN) := by
  obtain ⟨r0', r1, r2, r3, r4, r5, r6, r7, r8⟩ := h.reg.cells
  exact ⟨r5, by simp [World.cell?, h.box, hb]⟩

theorem ST.s5 {sN : ByteArray} (h : ST K B W rb b1 b3 b4 b5 bx bxc L2 n3 L4 L5 v2 F4 F5 W') (hb : bxc[3]? = some (.string sN)) : W'.cell? ⟨rb, 5, none⟩ = some (.map (some b5)) ∧ W'.cell? ⟨bx, 3, none⟩ = some (.string sN) := by
  obtain ⟨r0', r1, r2, r3, r4, r5, r6, r7, r8⟩ := h.reg.cells
  exact ⟨r6, by simp [World.cell?, h.box, hb]⟩

set_option maxRecDepth 100000 in
set_option maxHeartbeats 4000000 in
theorem relate_any (K : Nat → Prop) {B : Nat} {W : World} {rb b1 b3 b4 b5 : Nat} {v2 : Value} {F4 F5 : Nat → Value} {L : List Rel} (x : Rel) (h : RegS B W rb b1 b3 b4 b5 v2 F4 F5 L L.length L L) (hl : L.length < 32) (hx : x.ok) (hB : B ≤ W.heap.size) (hK : ∀ b, K b → b < W.heap.size ∧ b ≠ rb ∧ b ≠ b3 ∧ b ≠ b4 ∧ b ≠ b5 ∧ ∀ i g, i < 15 → ownOf v2 F4 F5 i = some g → g ≠ b) :
    Calls Ybaf.prog 13 #[.pointer (some ⟨rb, 0, none⟩), .agg #[.string (idOf L.length), .string (typeOf x.ty), .string (nameOf x.fr), .string (nameOf x.to), .int .i32 x.st, .int .i32 x.en, .string (roleOf x.ro), .int .i64 0, .pointer none, .string (tieOf x.ti)]] W
      fun e w' => e = .returned .nilIface ∧ ∃ v2' F4' F5', RegS B w' rb b1 b3 b4 b5 v2' F4' F5' (L ++ [x]) (L.length + 1) (L ++ [x]) (L ++ [x]) ∧ Below B W w' ∧ ∀ b, K b → w'.heap[b]? = W.heap[b]? ∧ ∀ i g, i < 15 → ownOf v2' F4' F5' i = some g → g ≠ b := by
  obtain ⟨-, hfr, hto, -, -⟩ := hx
  have HK : Hid (∀ b, K b → b < W.heap.size ∧ b ≠ rb ∧ b ≠ b3 ∧ b ≠ b4 ∧ b ≠ b5 ∧ ∀ i g, i < 15 → ownOf v2 F4 F5 i = some g → g ≠ b) := hK
  clear hK
  have HS : Hid (RegS B W rb b1 b3 b4 b5 v2 F4 F5 L L.length L L) := h
  have hltr := h.cells.1
  generalize hW1 : W.alloc (.cells #[.string (idOf L.length), .string (typeOf x.ty), .string (nameOf x.fr), .string (nameOf x.to), .int .i32 x.st, .int .i32 x.en, .string (roleOf x.ro), .int .i64 0, .pointer none, .string (tieOf x.ti)] 43) = W1
  have HS1 : Hid (RegS B W1 rb b1 b3 b4 b5 v2 F4 F5 L L.length L L) := by rw [← hW1]; exact h.alloc _
  obtain ⟨r0', r1, r2, r3, r4, r5, r6, r7, r8⟩ := HS1.out.cells
  have hbox : W1.heap[W.heap.size]? = some (.cells #[.string (idOf L.length), .string (typeOf x.ty), .string (nameOf x.fr), .string (nameOf x.to), .int .i32 x.st, .int .i32 x.en, .string (roleOf x.ro), .int .i64 0, .pointer none, .string (tieOf x.ti)] 43) := by rw [← hW1]; exact World.alloc_heap_new W _
  have HBox : Hid (W1.heap[W.heap.size]? = some (.cells #[.string (idOf L.length), .string (typeOf x.ty), .string (nameOf x.fr), .string (nameOf x.to), .int .i32 x.st, .int .i32 x.en, .string (roleOf x.ro), .int .i64 0, .pointer none, .string (tieOf x.ti)] 43)) := hbox
  obtain ⟨y, y0, y1, y2, y3, y4, y5, y6, y7, y8, y9⟩ := box10 hbox
  obtain ⟨F3, hm3⟩ := HS1.out.m3
  have hlk := (hm3.heap (w' := W1.drew) rfl).lookOk Ybaf.underlying69 (zero3 _) (p := L.length) hl (idOf_size _)
  rw [show decide (L.length < L.length) = false by simp] at hlk
  obtain ⟨va, vcap, hv2⟩ : ∃ a cap, v2 = .slice a L.length cap := (row_of_owns h.own2).form
  subst hv2
  have HW1 : Hid (W.alloc (.cells #[.string (idOf L.length), .string (typeOf x.ty), .string (nameOf x.fr), .string (nameOf x.to), .int .i32 x.st, .int .i32 x.en, .string (roleOf x.ro), .int .i64 0, .pointer none, .string (tieOf x.ti)] 43) = W1) := hW1
  clear hm3 hbox h
  generalize hs0 : idOf L.length = s0 at *
  generalize hs1 : typeOf x.ty = s1 at *
  generalize hs2 : nameOf x.fr = s2 at *
  generalize hs3 : nameOf x.to = s3 at *
  generalize hs6 : roleOf x.ro = s6 at *
  generalize hs9 : tieOf x.ti = s9 at *
  have Hs0 : Hid (idOf L.length = s0) := hs0
  have Hs1 : Hid (typeOf x.ty = s1) := hs1
  have Hs2 : Hid (nameOf x.fr = s2) := hs2
  have Hs3 : Hid (nameOf x.to = s3) := hs3
  have Hs6 : Hid (roleOf x.ro = s6) := hs6
  have Hs9 : Hid (tieOf x.ti = s9) := hs9
  clear hs0 hs1 hs2 hs3 hs6 hs9
  go_enter Ybaf.func13, Ybaf.ntmps13
  go_wp2_with fail
  clear hW1
  go_region
  obtain ⟨i43, hi43, hz43, hz431, hz432⟩ := info_parts info43
  obtain ⟨i3, hi3, hz3, hz31, hz32⟩ := info_parts info3
  have HSd : Hid (RegS B W1.drew rb b1 b3 b4 b5 (.slice va L.length vcap) F4 F5 L L.length L L) := HS1.out.drew
  have HBd : Hid (W1.drew.heap[W.heap.size]? = some (.cells #[.string s0, .string s1, .string s2, .string s3, .int .i32 x.st, .int .i32 x.en, .string s6, .int .i64 0, .pointer none, .string s9] 43)) := HBox.out
  generalize hW2 : W1.drew = W2 at *
  have HSZ2 : Hid (W2.heap.size = W.heap.size + 1) := by show _ = _; rw [← hW2]; show W1.heap.size = _; rw [← HW1.out]; simp
  have HHp2 : Hid (∀ b, b < W.heap.size → W2.heap[b]? = W.heap[b]?) := fun b hb => by
    rw [← hW2, ← HW1.out]
    exact Below.heap_alloc _ _ _ hb
  have HBl2 : Hid (Below B W W2) := by rw [← hW2, ← HW1.out]; exact (((Below.refl W.heap.size W).alloc (Nat.le_refl _) _).drew).mono hB
  have hown0 : ∀ i g, i < 15 → ownOf (.slice va L.length vcap) F4 F5 i = some g → g < W.heap.size := fun i g hi e => by
    obtain ⟨_, c, e', hc, _⟩ := HS.out.obj hi e
    exact (Array.getElem?_eq_some_iff.1 hc).1
  have HOwn0 : Hid (∀ i g, i < 15 → ownOf (.slice va L.length vcap) F4 F5 i = some g → g < W.heap.size) := hown0
  clear hW2 hlk r0' r1 r2 r3 r4 r5 r6 r7 r8 y y0 y1 y2 y3 y4 y5 y6 y7 y8 y9 hown0
  obtain ⟨r0', r1, r2, r3, r4, r5, r6, r7, r8⟩ := HSd.out.cells
  obtain ⟨y, y0, y1, y2, y3, y4, y5, y6, y7, y8, y9⟩ := box10 HBd.out
  have hBW2 : B ≤ W2.heap.size := by omega
  have HST : Hid (ST K B W rb b1 b3 b4 b5 W.heap.size #[.string s0, .string s1, .string s2, .string s3, .int .i32 x.st, .int .i32 x.en, .string s6, .int .i64 0, .pointer none, .string s9] L L.length L L (.slice va L.length vcap) F4 F5 W2) := ⟨HSd.out, HBd.out, HBl2.out, fun i g hi e e' => by have := HOwn0.out i g hi e; omega, hB, by omega, fun b hb => by
    obtain ⟨f1, f2⟩ := HK.out b hb
    exact ⟨f1, HHp2.out b f1, f2⟩⟩
  have Hrc : Hid (relCells L.length x = [.string s0, .string s1, .string s2, .string s3, .int .i32 x.st, .int .i32 x.en, .string s6, .int .i64 0, .pointer none, .string s9]) := by
    show relCells L.length x = _
    unfold relCells
    rw [Hs0.out, Hs1.out, Hs2.out, Hs3.out, Hs6.out, Hs9.out]
  go_wp2_with fail
  go_cut [41] (fun _ wc => ∃ v2', ST K B W rb b1 b3 b4 b5 W.heap.size #[.string s0, .string s1, .string s2, .string s3, .int .i32 x.st, .int .i32 x.en, .string s6, .int .i64 0, .pointer none, .string s9] (L ++ [x]) L.length L L v2' F4 F5 wc)
  case first =>
    go_region_law (refine step_append_lies _ (by rfl) _ _ _ (by rfl) B 43 i43 _ 10 120 Ybaf.underlying72 hi43 hz43 hz431 hz432 rfl (by decide) (.slice va L.length vcap) L.length (flat L.length fun i => relCells i (L.getD i r0)) (by rfl) (HSd.out.drew.alloc _).own2 ⟨W2.heap.size, 0, none⟩ 1 1 [.string s0, .string s1, .string s2, .string s3, .int .i32 x.st, .int .i32 x.en, .string s6, .int .i64 0, .pointer none, .string s9] (by rfl) (by rfl) (World.news_of_block (cs := #[.string s0, .string s1, .string s2, .string s3, .int .i32 x.st, .int .i32 x.en, .string s6, .int .i64 0, .pointer none, .string s9]) (t := 43) (fr := (0, 0)) (heap_alloc_new _ _)) (by intro u hu; simp only [List.mem_cons, List.mem_nil_iff, or_false] at hu; rcases hu with rfl | rfl | rfl | rfl | rfl | rfl | rfl | rfl | rfl | rfl <;> rfl) (by decide) (by unfold maxLen; omega) (by omega) (by simp; omega) (W2.heap.size + 1) (by simp) ?_; intro g cap Wg hown hgrow hat hlt; have hfin := HST.out.drew.two hB (by rw [Hrc.out]; exact hown) hgrow hat; have u2 : Wg.cell? ⟨rb, 2, none⟩ = some (.slice va L.length vcap) := (hgrow.cell_far _ (by simp; omega) (fun e => (HSd.out.maps (i := 0) (by decide) e.symm).1 rfl)).trans (cell_old _ r3); have u8 : Wg.frozen? ⟨rb, 2, none⟩ = false := (hgrow.frozen_far _ (by simp; omega) (fun e => (HSd.out.maps (i := 0) (by decide) e.symm).1 rfl)).trans ((World.frozen?_of_block (a := ⟨rb, 2, none⟩) (Below.heap_alloc _ _ _ (by simpa using r0'))).trans r8))
    all_goals (go_wp2_with fail; go_meet; exact ⟨_, hfin⟩)
  case rest =>
    obtain ⟨v2', hcut⟩ := hcut
    clear r0' r1 r2 r3 r4 r5 r6 r7 r8 y y0 y1 y2 y3 y4 y5 y6 y7 y8 y9 hBW2
    have HST3 : Hid (ST K B W rb b1 b3 b4 b5 W.heap.size #[.string s0, .string s1, .string s2, .string s3, .int .i32 x.st, .int .i32 x.en, .string s6, .int .i64 0, .pointer none, .string s9] (L ++ [x]) L.length L L v2' F4 F5 wc) := hcut
    obtain ⟨r0', r1, r2, r3, r4, r5, r6, r7, r8⟩ := hcut.reg.cells
    obtain ⟨y, y0, y1, y2, y3, y4, y5, y6, y7, y8, y9⟩ := box10 hcut.box
    obtain ⟨F3', hm3⟩ := hcut.reg.m3
    obtain ⟨W4, hrun4, hM4, hg4⟩ := (hm3.heap (w' := wc.drew) rfl).store idOf_inj Ybaf.underlying69 (by unfold maxLen; omega) (p := L.length) hl (idOf_size _) (.int .i64 (L.length : Nat))
    rw [Hs0.out] at hrun4
    have HST4 : Hid (ST K B W rb b1 b3 b4 b5 W.heap.size #[.string s0, .string s1, .string s2, .string s3, .int .i32 x.st, .int .i32 x.en, .string s6, .int .i64 0, .pointer none, .string s9] (L ++ [x]) (L.length + 1) L L v2' F4 F5 W4) := hcut.drew.three hB hM4 hg4
    clear hm3 hM4 hg4 hcut
    go_wp2_with fail
    go_region
    clear r0' r1 r2 r3 r4 r5 r6 r7 r8 y y0 y1 y2 y3 y4 y5 y6 y7 y8 y9 hrun4
    obtain ⟨r0', r1, r2, r3, r4, r5, r6, r7, r8⟩ := HST4.out.reg.cells
    obtain ⟨y, y0, y1, y2, y3, y4, y5, y6, y7, y8, y9⟩ := box10 HST4.out.box
    obtain ⟨n4, S4, hn4, hm4⟩ := HST4.out.reg.m4
    have hl4a := (hm4.heap (w' := W4.drew) rfl).look Ybaf.underlying70 (zero27 _) (p := x.fr) (by omega) (nameOf_size _)
    have hl4b := ((hm4.kept (World.grownBy_alloc W4 (.cells #[.int .i64 (L.length : Nat)] 3) none) (by simp)).heap (w' := (W4.alloc (.cells #[.int .i64 (L.length : Nat)] 3)).drew) rfl).look Ybaf.underlying70 (zero27 _) (p := x.fr) (by omega) (nameOf_size _)
    rw [Hs2.out] at hl4a hl4b
    obtain ⟨a4, c4, e4⟩ : ∃ a cap, F4 x.fr = .slice a (fromIdx L x.fr).length cap := (row_of_owns (HST4.out.reg.o4 x.fr (by omega))).form
    have E4 : Hid (F4 x.fr = .slice a4 (fromIdx L x.fr).length c4) := e4
    rw [e4] at hl4a hl4b
    clear e4
    have hfl4 : (fromIdx L x.fr).length ≤ 32 := Nat.le_trans (fromIdx_len L x.fr) (by omega)
    have hBl4 : B ≤ W4.heap.size := Nat.le_trans hB HST4.out.bel.size
    have HM4 : Hid (MapIs nameOf 7 W4 b4 n4 (.slice none (0 : Nat) 0) F4 S4) := hm4
    clear hm4
    go_wp2_with fail
    go_cut [66] (fun _ wc => ∃ F', ST K B W rb b1 b3 b4 b5 W.heap.size #[.string s0, .string s1, .string s2, .string s3, .int .i32 x.st, .int .i32 x.en, .string s6, .int .i64 0, .pointer none, .string s9] (L ++ [x]) (L.length + 1) (L ++ [x]) L v2' F' F5 wc)
    case first =>
      go_region_held3 (fun w' => w'.cell? ⟨rb, 4, none⟩ = some (.map (some b4)) ∧ w'.cell? ⟨W.heap.size, 2, none⟩ = some (.string s2))
        (first | exact HST4.out.drew.s4 rfl | exact (HST4.out.drew.alloc hB _).s4 rfl | exact ⟨u4, ub⟩ | exact hfin.s4 rfl)
        ((refine step_append_lies _ (by rfl) _ _ _ (by rfl) B 3 i3 _ 1 8 Ybaf.underlying27 hi3 hz3 hz31 hz32 rfl (by decide) (.slice a4 (fromIdx L x.fr).length c4) (fromIdx L x.fr).length (intsV (fromIdx L x.fr)) (by rfl) (by rw [← E4.out]; exact ((HST4.out.drew.alloc hB _).reg.o4 x.fr (by omega))) ⟨W4.heap.size, 0, none⟩ 1 1 [.int .i64 (L.length : Nat)] (by rfl) (by rfl) (World.news_of_block (cs := #[.int .i64 (L.length : Nat)]) (t := 3) (fr := (0, 0)) (heap_alloc_new _ _)) (by intro u hu; rw [List.mem_singleton] at hu; subst hu; rfl) (by decide) (by unfold maxLen; omega) (by omega) (by simp; omega) (W4.heap.size + 1) (by simp) ?_; intro g cap Wg hown hgrow hat hlt; rw [← E4.out] at hgrow hat; obtain ⟨W6, hrun6, ⟨F', hfin⟩, u4, ub⟩ := HST4.out.drew.step4 hB (x := x) (by omega) Hs2.out (by omega) hn4 (HM4.out.heap (w' := W4.drew) rfl) rfl hown hgrow hat))
      all_goals (go_wp2_with fail; go_meet; exact ⟨_, hfin⟩)
    case rest =>
      obtain ⟨F4', hcut⟩ := hcut
      have HST5 : Hid (ST K B W rb b1 b3 b4 b5 W.heap.size #[.string s0, .string s1, .string s2, .string s3, .int .i32 x.st, .int .i32 x.en, .string s6, .int .i64 0, .pointer none, .string s9] (L ++ [x]) (L.length + 1) (L ++ [x]) L v2' F4' F5 wc) := hcut
      clear r0' r1 r2 r3 r4 r5 r6 r7 r8 y y0 y1 y2 y3 y4 y5 y6 y7 y8 y9 hl4a hl4b hfl4 hBl4 hn4 hcut
      clear HM4 E4
      generalize wc = W5 at *
      obtain ⟨r0', r1, r2, r3, r4, r5, r6, r7, r8⟩ := HST5.out.reg.cells
      obtain ⟨y, y0, y1, y2, y3, y4, y5, y6, y7, y8, y9⟩ := box10 HST5.out.box
      obtain ⟨n5, S5, hn4, hm4⟩ := HST5.out.reg.m5
      have hl4a := (hm4.heap (w' := W5.drew) rfl).look Ybaf.underlying70 (zero27 _) (p := x.to) (by omega) (nameOf_size _)
      have hl4b := ((hm4.kept (World.grownBy_alloc W5 (.cells #[.int .i64 (L.length : Nat)] 3) none) (by simp)).heap (w' := (W5.alloc (.cells #[.int .i64 (L.length : Nat)] 3)).drew) rfl).look Ybaf.underlying70 (zero27 _) (p := x.to) (by omega) (nameOf_size _)
      rw [Hs3.out] at hl4a hl4b
      obtain ⟨a4, c4, e4⟩ : ∃ a cap, F5 x.to = .slice a (toIdx L x.to).length cap := (row_of_owns (HST5.out.reg.o5 x.to (by omega))).form
      have E4 : Hid (F5 x.to = .slice a4 (toIdx L x.to).length c4) := e4
      rw [e4] at hl4a hl4b
      clear e4
      have hfl4 : (toIdx L x.to).length ≤ 32 := Nat.le_trans (toIdx_len L x.to) (by omega)
      have hBl4 : B ≤ W5.heap.size := Nat.le_trans hB HST5.out.bel.size
      have HM4 : Hid (MapIs nameOf 7 W5 b5 n5 (.slice none (0 : Nat) 0) F5 S5) := hm4
      clear hm4
      go_wp2_with fail
      go_cut [82] (fun _ wc => ∃ F', ST K B W rb b1 b3 b4 b5 W.heap.size #[.string s0, .string s1, .string s2, .string s3, .int .i32 x.st, .int .i32 x.en, .string s6, .int .i64 0, .pointer none, .string s9] (L ++ [x]) (L.length + 1) (L ++ [x]) (L ++ [x]) v2' F4' F' wc)
      case first =>
        go_region_held3 (fun w' => w'.cell? ⟨rb, 5, none⟩ = some (.map (some b5)) ∧ w'.cell? ⟨W.heap.size, 3, none⟩ = some (.string s3))
          (first | exact HST5.out.drew.s5 rfl | exact (HST5.out.drew.alloc hB _).s5 rfl | exact ⟨u4, ub⟩ | exact hfin.s5 rfl)
          ((refine step_append_lies _ (by rfl) _ _ _ (by rfl) B 3 i3 _ 1 8 Ybaf.underlying27 hi3 hz3 hz31 hz32 rfl (by decide) (.slice a4 (toIdx L x.to).length c4) (toIdx L x.to).length (intsV (toIdx L x.to)) (by rfl) (by rw [← E4.out]; exact ((HST5.out.drew.alloc hB _).reg.o5 x.to (by omega))) ⟨W5.heap.size, 0, none⟩ 1 1 [.int .i64 (L.length : Nat)] (by rfl) (by rfl) (World.news_of_block (cs := #[.int .i64 (L.length : Nat)]) (t := 3) (fr := (0, 0)) (heap_alloc_new _ _)) (by intro u hu; rw [List.mem_singleton] at hu; subst hu; rfl) (by decide) (by unfold maxLen; omega) (by omega) (by simp; omega) (W5.heap.size + 1) (by simp) ?_; intro g cap Wg hown hgrow hat hlt; rw [← E4.out] at hgrow hat; obtain ⟨W6, hrun6, ⟨F', hfin⟩, u4, ub⟩ := HST5.out.drew.step5 hB (x := x) (by omega) Hs3.out (by omega) hn4 (HM4.out.heap (w' := W5.drew) rfl) rfl hown hgrow hat))
        all_goals (go_wp2_with fail; go_meet; exact ⟨_, hfin⟩)
      case rest =>
        obtain ⟨F5', hcut⟩ := hcut
        clear r0' r1 r2 r3 r4 r5 r6 r7 r8 y y0 y1 y2 y3 y4 y5 y6 y7 y8 y9 hl4a hl4b hfl4 hBl4 hn4
        clear HM4 E4
        have HST6 : Hid (ST K B W rb b1 b3 b4 b5 W.heap.size #[.string s0, .string s1, .string s2, .string s3, .int .i32 x.st, .int .i32 x.en, .string s6, .int .i64 0, .pointer none, .string s9] (L ++ [x]) (L.length + 1) (L ++ [x]) (L ++ [x]) v2' F4' F5' wc) := hcut
        clear hcut
        go_wp2_with fail
        first | exact ⟨rfl, _, _, _, HST6.out.reg, HST6.out.bel, fun b hb => ⟨(HST6.out.far b hb).2.1, (HST6.out.far b hb).2.2.2.2.2.2⟩⟩ | exact ⟨_, _, _, rfl, _, _, _, HST6.out.reg, HST6.out.bel, fun b hb => ⟨(HST6.out.far b hb).2.1, (HST6.out.far b hb).2.2.2.2.2.2⟩⟩ | exact bodyPost_ret (by simp [results, Ybaf.results13, go_sem]; try rfl) rfl ⟨rfl, _, _, _, HST6.out.reg, HST6.out.bel, fun b hb => ⟨(HST6.out.far b hb).2.1, (HST6.out.far b hb).2.2.2.2.2.2⟩⟩
end Go.Proofs.YbulkcfwsFmt
