import Derived.Test.YbulkcfwsFmtCtl
import Derived.Test.YbulkcfwsFmtKinR
import Derived.Deep.CutBlock
import Derived.Deep.DeepCutAuto
import Derived.Deep.RegionHeld3
import Derived.Deep.DrawnRows
import Derived.BigRegion
namespace Go.Proofs.YbulkcfwsFmt
open Go.RowKit

def AnyB : Nat → Prop := fun _ => True

/-- What controlOn hands back. -/
def CtlTo (L : List Rel) (d : Int) (up : Bool) (c : Nat) (w : World) (e : Ending) (w' : World) : Prop :=
  (∃ (v : Value) (qs : List Nat), e = .returned v ∧ (∀ q, q ∈ qs ↔ Reach L d up c q ∧ q ≠ c ∧ q ≠ 0) ∧ (∀ q ∈ qs, q < 7) ∧ qs.length ≤ 7 ∧ Strs (w.heap.size ≤ ·) w' v (qs.map nameOf)) ∧ Below w.heap.size w w'

theorem Row.any {ok : Nat → Prop} {w : World} {v : Value} {n m : Nat} {cs : List Value} (h : Row ok w v n m cs) : Row AnyB w v n m cs := h.mono (fun _ _ _ => trivial)

theorem Strs.any {ok : Nat → Prop} {w : World} {v : Value} {ss : List ByteArray} (h : Strs ok w v ss) : Strs AnyB w v ss := Row.any h

theorem Strs.formS {ok : Nat → Prop} {w : World} {v : Value} {ps : List Nat} (h : Strs ok w v (ps.map nameOf)) : ∃ a c, v = .slice a ps.length c := by
  obtain ⟨a, c, e⟩ := Row.form h
  exact ⟨a, c, by simpa using e⟩

theorem strs_one (w : World) (p : Nat) : Strs AnyB (w.alloc (.cells #[.string (nameOf p)] 9)) (.slice (some ⟨w.heap.size, 0, none⟩) (1 : Nat) 1) ([p].map nameOf) :=
  (row_new w #[.string (nameOf p)] 9 1 1 rfl).any

theorem catN (W : World) (v1 v2 : Value) (ps qs : List Nat) (h1 : Strs AnyB W v1 (ps.map nameOf)) (h2 : Strs AnyB W v2 (qs.map nameOf)) (hn : 0 < ps.length + qs.length) (l1 : ps.length ≤ 1000) (l2 : qs.length ≤ 1000) :
    Calls Ybaf.prog 33 #[.slice (some ⟨W.heap.size, 0, none⟩) (2 : Nat) 2] (W.alloc (.cells #[v1, v2] 47)) fun e w' => (∃ g cap, e = .returned (.slice (some ⟨g, 0, none⟩) (ps.length + qs.length) cap) ∧ Strs (W.heap.size ≤ ·) w' (.slice (some ⟨g, 0, none⟩) (ps.length + qs.length) cap) ((ps ++ qs).map nameOf)) ∧ Below W.heap.size W w' := by
  have hb := (Below.refl W.heap.size W).alloc (Nat.le_refl _) (.cells #[v1, v2] 47)
  have hr1 : Row AnyB (W.alloc (.cells #[v1, v2] 47)) v1 ps.length 1 ((ps.map nameOf).map Value.string) := by
    have := h1.lift hb
    simpa [Strs] using this
  have hr2 : Row AnyB (W.alloc (.cells #[v1, v2] 47)) v2 qs.length 1 ((qs.map nameOf).map Value.string) := by
    have := h2.lift hb
    simpa [Strs] using this
  have ho : ∀ (xs : List Nat), ∀ u ∈ (xs.map nameOf).map Value.string, u.oneCell' = true := by
    intro xs u hu
    obtain ⟨s, _, rfl⟩ := List.mem_map.1 hu
    rfl
  refine (cat33_any W.heap.size ps.length qs.length 2 v1 v2 _ _ _ (cell_new W #[v1, v2] 47 0) (cell_new W #[v1, v2] 47 1) (by simp) hr1 hr2 hn (by omega) (by omega) (ho ps) (ho qs)).mono ?_
  rintro e w' ⟨⟨v', rfl, hown⟩, hbl⟩
  obtain ⟨g, cap, rfl, _⟩ := hown.form (by omega)
  refine ⟨⟨g, cap, rfl, ?_⟩, hb.trans (hbl.mono hb.size)⟩
  have : Row (W.heap.size ≤ ·) w' _ _ _ _ := (row_of_owns hown).mono (fun b hb _ => by have := hb.2; simp at this; omega)
  simpa [Strs] using this

/-- A block of three cells. -/
def Tri (W : World) (b : Nat) (x0 x1 x2 : Value) : Prop := W.heap[b]? = some (.cells #[x0, x1, x2] 78 (0, 0))

theorem Tri.cell {W : World} {b : Nat} {x0 x1 x2 : Value} (h : Tri W b x0 x1 x2) : W.cell? ⟨b, 0, none⟩ = some x0 ∧ W.cell? ⟨b, 1, none⟩ = some x1 ∧ W.cell? ⟨b, 2, none⟩ = some x2 := by
  unfold Tri at h
  simp [World.cell?, h]

theorem Tri.frozen {W : World} {b : Nat} {x0 x1 x2 : Value} (h : Tri W b x0 x1 x2) (j : Nat) : W.frozen? ⟨b, j, none⟩ = false := by
  unfold Tri at h
  simp [World.frozen?, h]

theorem Tri.lt {W : World} {b : Nat} {x0 x1 x2 : Value} (h : Tri W b x0 x1 x2) : b < W.heap.size := (Array.getElem?_eq_some_iff.1 h).1

theorem Tri.below {W W' : World} {b : Nat} {x0 x1 x2 : Value} (h : Tri W b x0 x1 x2) (hb : Below W.heap.size W W') : Tri W' b x0 x1 x2 := (hb.block b h.lt).trans h

theorem Tri.alloc {W : World} {b : Nat} {x0 x1 x2 : Value} (h : Tri W b x0 x1 x2) (o : Obj) : Tri (W.alloc o) b x0 x1 x2 := h.below ((Below.refl _ W).alloc (Nat.le_refl _) o)

theorem Tri.drew {W : World} {b : Nat} {x0 x1 x2 : Value} (h : Tri W b x0 x1 x2) : Tri W.drew b x0 x1 x2 := h

theorem Tri.far {W : World} {b b' j : Nat} {x0 x1 x2 u : Value} (h : Tri W b x0 x1 x2) (hne : b ≠ b') : Tri (W.setCell ⟨b', j, none⟩ u) b x0 x1 x2 := (Below.heap_setCell W ⟨b', j, none⟩ u b hne).trans h

theorem Tri.set {W : World} {b j : Nat} {x0 x1 x2 u : Value} (h : Tri W b x0 x1 x2) (hj : j = 0 ∨ j = 1 ∨ j = 2) : Tri (W.setCell ⟨b, j, none⟩ u) b (if j = 0 then u else x0) (if j = 1 then u else x1) (if j = 2 then u else x2) := by
  obtain ⟨hlt, hk⟩ := Array.getElem?_eq_some_iff.1 h
  show (W.heap.modify b _)[b]? = _
  rw [Array.getElem?_eq_getElem (by rw [Array.size_modify]; exact hlt), Array.getElem_modify_self, hk]
  rcases hj with rfl | rfl | rfl <;> rfl

theorem tri_new (W : World) (x0 x1 x2 : Value) : Tri (W.alloc (.cells #[x0, x1, x2] 78)) W.heap.size x0 x1 x2 := World.alloc_heap_new W _

/-- What tiesTo hands back. -/
structure TieTo (L : List Rel) (d : Int) (c : Nat) (w : World) (v0 v1 v2 : Value) (us ds : List Nat) (w' : World) : Prop where
  mu : ∀ q, q ∈ us ↔ Reach L d true c q ∧ q ≠ c ∧ q ≠ 0
  md : ∀ q, q ∈ ds ↔ Reach L d false c q ∧ q ≠ c ∧ q ≠ 0
  lu : (∀ q ∈ us, q < 7) ∧ us.length ≤ 7
  ld : (∀ q ∈ ds, q < 7) ∧ ds.length ≤ 7
  s0 : Strs AnyB w' v0 (us.map nameOf)
  s1 : Strs AnyB w' v1 ((c :: us).map nameOf)
  s2 : Strs AnyB w' v2 ((c :: us ++ ds).map nameOf)
  bel : Below w.heap.size w w'

theorem strs_at (W : World) (c k : Nat) (nc : ByteArray) (h : nameOf c = nc) (hk : W.heap.size = k) : Strs AnyB (W.alloc (.cells #[.string nc] 9)) (.slice (some ⟨k, 0, none⟩) (1 : Nat) 1) ([c].map nameOf) := by
  subst h
  subst hk
  exact strs_one W c

/-- Between the steps of the last region. -/
structure TI (w : World) (b6 b7 : Nat) (v0 v1 : Value) (c : Nat) (us : List Nat) (W : World) : Prop where
  bel : Below w.heap.size w W
  t6 : Tri W b6 (.slice none (0 : Nat) 0) (.slice none (0 : Nat) 0) (.slice none (0 : Nat) 0)
  t7 : Tri W b7 v0 v1 (.slice none (0 : Nat) 0)
  s0 : Strs (fun b => w.heap.size + 1 ≤ b ∧ b ≠ b7) W v0 (us.map nameOf)
  s1 : Strs (fun b => w.heap.size + 1 ≤ b ∧ b ≠ b7) W v1 ((c :: us).map nameOf)

theorem TI.below {w : World} {b6 b7 : Nat} {v0 v1 : Value} {c : Nat} {us : List Nat} {W W' : World} (h : TI w b6 b7 v0 v1 c us W) (hb : Below W.heap.size W W') : TI w b6 b7 v0 v1 c us W' :=
  ⟨h.bel.trans (hb.mono h.bel.size), h.t6.below hb, h.t7.below hb, h.s0.lift hb, h.s1.lift hb⟩

theorem TI.alloc {w : World} {b6 b7 : Nat} {v0 v1 : Value} {c : Nat} {us : List Nat} {W : World} (h : TI w b6 b7 v0 v1 c us W) (o : Obj) : TI w b6 b7 v0 v1 c us (W.alloc o) := h.below ((Below.refl _ W).alloc (Nat.le_refl _) o)

theorem TI.s {w : World} {b6 b7 : Nat} {v0 v1 : Value} {c : Nat} {us : List Nat} {W : World} (h : TI w b6 b7 v0 v1 c us W) : W.cell? ⟨b7, 1, none⟩ = some v1 ∧ (W.cell? ⟨b7, 2, none⟩).isSome = true ∧ W.frozen? ⟨b7, 2, none⟩ = false := ⟨h.t7.cell.2.1, by rw [h.t7.cell.2.2]; rfl, h.t7.frozen 2⟩

theorem TI.sSet {w : World} {b6 b7 : Nat} {v0 v1 u : Value} {c : Nat} {us : List Nat} {W : World} (h : TI w b6 b7 v0 v1 c us W) : (W.setCell ⟨b7, 2, none⟩ u).cell? ⟨b7, 1, none⟩ = some v1 ∧ ((W.setCell ⟨b7, 2, none⟩ u).cell? ⟨b7, 2, none⟩).isSome = true ∧ (W.setCell ⟨b7, 2, none⟩ u).frozen? ⟨b7, 2, none⟩ = false := by
  have ht := h.t7.set (j := 2) (u := u) (.inr (.inr rfl))
  simp at ht
  exact ⟨ht.cell.2.1, by rw [ht.cell.2.2]; rfl, ht.frozen 2⟩

set_option maxRecDepth 100000 in
set_option maxHeartbeats 4000000 in
theorem tiesTo_any (rb c : Nat) (L : List Rel) (d : Int) (w : World)
    (HCo : ∀ (up : Bool) (W : World) (fv : Value), Below w.heap.size w W → Strs AnyB W fv ([c].map nameOf) → Calls Ybaf.prog 32 #[.pointer (some ⟨rb, 0, none⟩), fv, .int .i32 d, .bool up] W (CtlTo L d up c W)) :
    Calls Ybaf.prog 21 #[.pointer (some ⟨rb, 0, none⟩), .string (nameOf c), .int .i32 d] w fun e w' => ∃ v0 v1 v2 us ds, e = .returned (.agg #[v0, v1, v2]) ∧ TieTo L d c w v0 v1 v2 us ds w' := by
  have HC : Hid _ := HCo
  clear HCo
  generalize hnc : nameOf c = nc at *
  have Hnc : Hid (nameOf c = nc) := hnc
  clear hnc
  go_enter Ybaf.func21, Ybaf.ntmps21
  go_wp2_with fail
  have hb0 : Below w.heap.size w ((w.alloc (.cells #[.slice none (0 : Nat) 0, .slice none (0 : Nat) 0, .slice none (0 : Nat) 0] 78)).alloc (.cells #[.string nc] 9)) := ((Below.refl _ w).alloc (Nat.le_refl _) _).alloc (by simp) _
  have ht0 := (tri_new w (.slice none (0 : Nat) 0) (.slice none (0 : Nat) 0) (.slice none (0 : Nat) 0)).alloc (.cells #[.string nc] 9)
  have hst : Strs AnyB ((w.alloc (.cells #[.slice none (0 : Nat) 0, .slice none (0 : Nat) 0, .slice none (0 : Nat) 0] 78)).alloc (.cells #[.string nc] 9)) (.slice (some ⟨w.heap.size + 1, 0, none⟩) (1 : Nat) 1) ([c].map nameOf) := by
    have := strs_one (w.alloc (.cells #[.slice none (0 : Nat) 0, .slice none (0 : Nat) 0, .slice none (0 : Nat) 0] 78)) c
    rw [Hnc.out] at this
    simpa using this
  refine (HC.out true _ _ hb0 hst).mono ?_
  rintro e w1 ⟨⟨v0, us, rfl, hmu, hlu, hul, hs0⟩, hb1⟩
  have hT1 := ht0.below hb1
  have hbw1 : Below w.heap.size w w1 := hb0.trans (hb1.mono hb0.size)
  have hs0' : Strs (w.heap.size + 1 ≤ ·) w1 v0 (us.map nameOf) := hs0.mono (fun b hb _ => by simp at hb; omega)
  obtain ⟨a0, c0, rfl⟩ := hs0.formS
  clear hb1 hst ht0 hs0 hb0
  have hW : ∃ W, W = (w1.alloc (.cells #[.slice a0 us.length c0, .slice none (0 : Nat) 0, .slice none (0 : Nat) 0] 78)).alloc (.cells #[.string nc] 9) := ⟨_, rfl⟩
  obtain ⟨W, hW⟩ := hW
  have hbW : Below w1.heap.size w1 W := by rw [hW]; exact ((Below.refl _ w1).alloc (Nat.le_refl _) _).alloc (by simp) _
  have hT7 : Tri W w1.heap.size (.slice a0 us.length c0) (.slice none (0 : Nat) 0) (.slice none (0 : Nat) 0) := by rw [hW]; exact (tri_new w1 _ _ _).alloc _
  have hsW : W.heap.size = w1.heap.size + 1 + 1 := by rw [hW]; simp
  have hst1 : Strs AnyB W (.slice (some ⟨w1.heap.size + 1, 0, none⟩) (1 : Nat) 1) ([c].map nameOf) := by
    have := strs_one (w1.alloc (.cells #[.slice a0 us.length c0, .slice none (0 : Nat) 0, .slice none (0 : Nat) 0] 78)) c
    rw [Hnc.out, ← hW] at this
    simpa using this
  have hcat := catN W _ _ [c] us hst1 (hs0'.lift hbW).any (by simp; omega) (by simp) (by omega)
  rw [hsW, hW] at hcat
  have HMU : Hid (∀ q, q ∈ us ↔ Reach L d true c q ∧ q ≠ c ∧ q ≠ 0) := hmu
  have HLU : Hid (∀ q ∈ us, q < 7) := hlu
  have HT1 : Hid (Tri w1 w.heap.size (.slice none (0 : Nat) 0) (.slice none (0 : Nat) 0) (.slice none (0 : Nat) 0)) := hT1
  have HS0 : Hid (Strs (w.heap.size + 1 ≤ ·) w1 (.slice a0 us.length c0) (us.map nameOf)) := hs0'
  have HBW1 : Hid (Below w.heap.size w w1) := hbw1
  have HT7 : Hid (Tri ((w1.alloc (.cells #[.slice a0 us.length c0, .slice none (0 : Nat) 0, .slice none (0 : Nat) 0] 78)).alloc (.cells #[.string nc] 9)) w1.heap.size (.slice a0 us.length c0) (.slice none (0 : Nat) 0) (.slice none (0 : Nat) 0)) := by rw [← hW]; exact hT7
  have HBW : Hid (Below w1.heap.size w1 ((w1.alloc (.cells #[.slice a0 us.length c0, .slice none (0 : Nat) 0, .slice none (0 : Nat) 0] 78)).alloc (.cells #[.string nc] 9))) := by rw [← hW]; exact hbW
  clear hmu hlu hT1 hs0' hbw1 hst1 hT7 hbW hsW hW
  go_wp2_with fail
  refine hcat.mono ?_
  rintro e w2 ⟨⟨g1, cap1, rfl, hs1⟩, hb2⟩
  have hb12 : Below w1.heap.size w1 w2 := HBW.out.trans (hb2.mono (by omega))
  have hb2' : Below ((w1.alloc (.cells #[.slice a0 us.length c0, .slice none (0 : Nat) 0, .slice none (0 : Nat) 0] 78)).alloc (.cells #[.string nc] 9)).heap.size ((w1.alloc (.cells #[.slice a0 us.length c0, .slice none (0 : Nat) 0, .slice none (0 : Nat) 0] 78)).alloc (.cells #[.string nc] 9)) w2 := by simpa using hb2
  have hT7 := HT7.out.below hb2'
  have hT6 := HT1.out.below hb12
  have t71 := hT7.cell.2.1
  have f71 := hT7.frozen 1
  have l7 := hT7.lt
  have l6 := HT1.out.lt
  have HT7' : Hid (Tri w2 w1.heap.size (.slice a0 us.length c0) (.slice none (0 : Nat) 0) (.slice none (0 : Nat) 0)) := hT7
  have HT6 : Hid (Tri w2 w.heap.size (.slice none (0 : Nat) 0) (.slice none (0 : Nat) 0) (.slice none (0 : Nat) 0)) := hT6
  have hl1 : [c].length + us.length = us.length + 1 := by simp; omega
  rw [hl1] at hs1 ⊢
  have hI3 : TI w w.heap.size w1.heap.size (.slice a0 us.length c0) (.slice (some ⟨g1, 0, none⟩) (us.length + 1) cap1) c us (w2.setCell ⟨w1.heap.size, 1, none⟩ (.slice (some ⟨g1, 0, none⟩) (us.length + 1) cap1)) := by
    have hset : ∀ b, b ≠ w1.heap.size → (w2.setCell ⟨w1.heap.size, 1, none⟩ (.slice (some ⟨g1, 0, none⟩) (us.length + 1) cap1)).heap[b]? = w2.heap[b]? := fun b hb => Below.heap_setCell w2 ⟨w1.heap.size, 1, none⟩ _ b hb
    have hss : w2.heap.size ≤ (w2.setCell ⟨w1.heap.size, 1, none⟩ (.slice (some ⟨g1, 0, none⟩) (us.length + 1) cap1)).heap.size := by simp [World.setCell]
    refine ⟨(HBW1.out.trans (hb12.mono HBW1.out.size)).setCell HBW1.out.size _, hT6.far (by omega), ?_, ?_, ?_⟩
    · have := hT7.set (j := 1) (u := .slice (some ⟨g1, 0, none⟩) (us.length + 1) cap1) (.inr (.inl rfl))
      simpa using this
    · exact HS0.out.keep (fun b hok hlt => ⟨(hset b (by omega)).trans (hb12.block b hlt), hok, by omega⟩) (Nat.le_trans hb12.size hss)
    · exact hs1.keep (fun b hok _ => ⟨hset b (by have h1 : w1.heap.size + 1 + 1 ≤ b := hok; omega), by have h1 : w1.heap.size + 1 + 1 ≤ b := hok; omega, by have h1 : w1.heap.size + 1 + 1 ≤ b := hok; omega⟩) hss
  have HI3 : Hid (TI w w.heap.size w1.heap.size (.slice a0 us.length c0) (.slice (some ⟨g1, 0, none⟩) (us.length + 1) cap1) c us (w2.setCell ⟨w1.heap.size, 1, none⟩ (.slice (some ⟨g1, 0, none⟩) (us.length + 1) cap1))) := hI3
  clear hcat hb2 hb2' hT7 hT6 hs1 hb12 hl1 hI3 HT7' HT6
  go_wp2_with fail
  have hI : TI w w.heap.size w1.heap.size (.slice a0 us.length c0) (.slice (some ⟨g1, 0, none⟩) (us.length + 1) cap1) c us (w2.setCell ⟨w1.heap.size, 1, none⟩ (.slice (some ⟨g1, 0, none⟩) (us.length + 1) cap1)).drew := HI3.out.below (Below.refl _ _).drew
  go_region_held3 (fun w' => w'.cell? ⟨w1.heap.size, 1, none⟩ = some (.slice (some ⟨g1, 0, none⟩) (us.length + 1) cap1))
    (first | exact hI.s.1 | exact (hI.alloc _).s.1 | exact hI.sSet.1)
    (first
      | (go_at_call 32; refine (HC.out false _ _ (hI.alloc _).bel (strs_at _ c _ nc Hnc.out (by simp [World.setCell]))).mono ?_; rintro en wA ⟨⟨v2, dss, rfl, hmd, hld, hdl, hsd⟩, hbA⟩; obtain ⟨a2, c2, rfl⟩ := hsd.formS; replace hI := (hI.alloc _).below hbA)
      | (go_at_call 33; refine (catN wA _ _ (c :: us) dss hI.s1.any hsd.any (by simp; omega) (by simp; omega) (by omega)).mono ?_; rintro en wB ⟨⟨g2, cap2, rfl, hs2⟩, hbB⟩; replace hI := hI.below hbB; have t72 := hI.t7.cell.2.2; have f72 := hI.t7.frozen 2; have l72 := hI.t7.lt))
  have hl2 : (c :: us).length + dss.length = us.length + 1 + dss.length := by simp
  rw [hl2] at hs2
  have hlA : w.heap.size + 1 ≤ wA.heap.size := by
    have h1 := hbA.size
    simp [World.setCell] at h1
    omega
  have hlA2 : w1.heap.size < wA.heap.size := by
    have h1 := hbA.size
    simp [World.setCell] at h1
    omega
  obtain ⟨w4, hw4⟩ : ∃ w4, w4 = wB.setCell ⟨w1.heap.size, 2, none⟩ (.slice (some ⟨g2, 0, none⟩) (us.length + 1 + dss.length) cap2) := ⟨_, rfl⟩
  have ht7 : Tri w4 w1.heap.size (.slice a0 us.length c0) (.slice (some ⟨g1, 0, none⟩) (us.length + 1) cap1) (.slice (some ⟨g2, 0, none⟩) (us.length + 1 + dss.length) cap2) := by
    have := hI.t7.set (j := 2) (u := .slice (some ⟨g2, 0, none⟩) (us.length + 1 + dss.length) cap2) (.inr (.inr rfl))
    rw [hw4]
    simpa using this
  have ht6 : Tri w4 w.heap.size (.slice none (0 : Nat) 0) (.slice none (0 : Nat) 0) (.slice none (0 : Nat) 0) := by
    rw [hw4]
    exact hI.t6.far (by omega)
  have hset : ∀ b, b ≠ w1.heap.size → w4.heap[b]? = wB.heap[b]? := fun b hb => by rw [hw4]; exact Below.heap_setCell wB ⟨w1.heap.size, 2, none⟩ _ b hb
  have hss : wB.heap.size ≤ w4.heap.size := by rw [hw4]; simp [World.setCell]
  have hlB := hbB.size
  have hT : ∀ w5 : World, (∀ b, b ≠ w.heap.size → w5.heap[b]? = w4.heap[b]?) → w4.heap.size ≤ w5.heap.size → Below w.heap.size w w5 → TieTo L d c w (.slice a0 us.length c0) (.slice (some ⟨g1, 0, none⟩) (us.length + 1) cap1) (.slice (some ⟨g2, 0, none⟩) (us.length + 1 + dss.length) cap2) us dss w5 := by
    intro w5 h5 hs5 hb5
    have hk : ∀ b, w.heap.size + 1 ≤ b → b ≠ w1.heap.size → w5.heap[b]? = wB.heap[b]? := fun b h1 h2 => (h5 b (by omega)).trans (hset b h2)
    refine ⟨HMU.out, hmd, ⟨HLU.out, hul⟩, ⟨hld, hdl⟩, ?_, ?_, ?_, hb5⟩
    · exact hI.s0.keep (fun b hok _ => ⟨hk b hok.1 hok.2, trivial⟩) (Nat.le_trans hss hs5)
    · exact hI.s1.keep (fun b hok _ => ⟨hk b hok.1 hok.2, trivial⟩) (Nat.le_trans hss hs5)
    · exact hs2.keep (fun b hok _ => ⟨hk b (by have h1 : wA.heap.size ≤ b := hok; omega) (by have h1 : wA.heap.size ≤ b := hok; omega), trivial⟩) (Nat.le_trans hss hs5)
  have HT : Hid _ := hT
  have HB4 : Hid (Below w.heap.size w w4) := by rw [hw4]; exact hI.bel.setCell HBW1.out.size _
  rw [← hw4]
  have p70 := ht7.cell.1
  have p71 := ht7.cell.2.1
  have p72 := ht7.cell.2.2
  have p60 := ht6.cell.1
  have p61 := ht6.cell.2.1
  have p62 := ht6.cell.2.2
  have q60 := ht6.frozen 0
  have q61 := ht6.frozen 1
  have q62 := ht6.frozen 2
  have r7 := ht7.lt
  have r6 := ht6.lt
  clear hw4 hT ht6 ht7 hset hss hI hs2 hsd hmd hld hbA hbB t72 f72 l72
  go_wp2_with fail
  refine bodyPost_ret (by simp [results, Ybaf.results21, go_sem, World.cell?_setCell_same', World.cell?_setCell_other, p60, p61, p62]; try rfl) rfl ?_
  refine ⟨_, _, _, us, dss, rfl, HT.out _ ?_ ?_ ?_⟩
  · intro b hb
    rw [Below.heap_setCell _ _ _ b hb, Below.heap_setCell _ _ _ b hb, Below.heap_setCell _ _ _ b hb]
  · simp [World.setCell]
  · exact ((HB4.out.setCell (Nat.le_refl _) _).setCell (Nat.le_refl _) _).setCell (Nat.le_refl _) _
end Go.Proofs.YbulkcfwsFmt
