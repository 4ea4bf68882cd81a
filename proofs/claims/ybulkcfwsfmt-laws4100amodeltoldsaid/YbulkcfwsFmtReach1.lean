import Derived.Test.YbulkcfwsFmtReach0
import Derived.Deep.AppendLies
namespace Go.Proofs.YbulkcfwsFmt
open Go.RowKit Go.Shelf

theorem info9r : (Ybaf.prog.info? 9).map (fun i => (i.zero, i.size, i.bytes)) = some (some (Value.string ⟨#[]⟩), 1, 16) := by kernel_rfl

theorem grown_setCell (W : World) (b o : Nat) (v : Value) : W.grownBy (W.setCell ⟨b, o, none⟩ v) (some b) :=
  ⟨rfl, rfl, rfl, by simp [World.setCell], fun k _ hk => Below.heap_setCell _ _ _ k (fun e => hk (by rw [e]))⟩

theorem Que.append {B : Nat} {W : World} {v : Value} {ps : List Nat} (h : Que B W v ps) (q : Nat) (ty : TypeId) (hp : ps.length ≤ 100) (_ : B ≤ W.heap.size) :
    ∃ g off cap w', (Builtin.append_ #[47, 47] ty #[v, .slice (some ⟨W.heap.size, 0, none⟩) 1 1]).run Ybaf.prog (W.alloc (.cells #[.string (nameOf q)] 9)) = .ok (.slice (some ⟨g, off, none⟩) (ps.length + 1) cap) w' ∧ Que B w' (.slice (some ⟨g, off, none⟩) (ps.length + 1) cap) (ps ++ [q]) ∧ (W.alloc (.cells #[.string (nameOf q)] 9)).grownBy w' v.ownBlock ∧
      (v.ownBlock = some g ∨ W.heap.size + 1 ≤ g) := by
  obtain ⟨i0, hi, hz0, hz1, hz2⟩ := info_parts info9r
  have hnews : ∀ j u, [Value.string (nameOf q)][j]? = some u → (W.alloc (.cells #[.string (nameOf q)] 9)).cell? ((⟨W.heap.size, 0, none⟩ : Addr).add j) = some u := by
    intro j u hj
    have hj0 : j = 0 := by
      have := (List.getElem?_eq_some_iff.1 hj).1
      simp at this
      omega
    subst hj0
    simp at hj
    subst hj
    simp [Addr.add]
  have h' : Que B (W.alloc (.cells #[.string (nameOf q)] 9)) v ps := h.keep (fun g _ hlt => Below.heap_alloc _ _ _ hlt) (by simp)
  have hs1 : (W.alloc (.cells #[.string (nameOf q)] 9)).heap.size = W.heap.size + 1 := by simp
  generalize W.alloc (.cells #[.string (nameOf q)] 9) = W1 at *
  obtain ⟨g, off, cap, rfl, h1, h2, h3, h4, h5⟩ := h'
  by_cases hroom : ps.length + 1 ≤ cap
  · have hr := run_append_room_cells (P := Ybaf.prog) W1 47 ty 9 i0 Ybaf.underlying47 hi g off ps.length cap ⟨W.heap.size, 0, none⟩ 1 1 [.string (nameOf q)] (by rw [hz1]; rfl) hnews (by intro u hu; rw [List.mem_singleton] at hu; subst hu; rfl) hroom
      (fun j hj => by
        have hj0 : j = 0 := by simpa using hj
        rw [hz1, hj0]
        have := (h5 ps.length (by omega)).1
        simpa using this)
      (fun j hj => by
        have hj0 : j = 0 := by simpa using hj
        rw [hz1, hj0]
        have := (h5 ps.length (by omega)).2
        simpa using this)
    rw [hz1] at hr
    refine ⟨g, off, cap, _, hr, ?_, ?_, .inl rfl⟩
    · have e : W1.setCells g (off + ps.length * 1) [.string (nameOf q)] = W1.setCell ⟨g, off + ps.length, none⟩ (.string (nameOf q)) := by
        rw [Nat.mul_one]; rfl
      rw [e]
      have hl : (ps ++ [q]).length = ps.length + 1 := by simp
      refine ⟨g, off, cap, by rw [hl], by omega, h2, by simpa [World.setCell] using h3, fun j hj => ?_, fun j hj => ?_⟩
      · by_cases e : j = ps.length
        · subst e
          obtain ⟨u, hu⟩ := Option.isSome_iff_exists.1 (h5 ps.length (by omega)).1
          rw [World.cell?_setCell_same' _ _ _ (by rw [hu]; rfl)]
          simp [List.getD]
        · rw [World.cell?_setCell_other (w := W1) (a := ⟨g, off + ps.length, none⟩) (b := ⟨g, off + j, none⟩) _ (fun e' => e (by have := congrArg Addr.off e'; simp at this; omega)), h4 j (by omega)]
          simp [List.getD, List.getElem?_append, show j < ps.length by omega]
      · rw [World.frozen?_setCell]
        refine ⟨?_, (h5 j hj).2⟩
        by_cases e : j = ps.length
        · subst e
          obtain ⟨u, hu⟩ := Option.isSome_iff_exists.1 (h5 ps.length (by omega)).1
          rw [World.cell?_setCell_same' _ _ _ (by rw [hu]; rfl)]
          rfl
        · rw [World.cell?_setCell_other (w := W1) (a := ⟨g, off + ps.length, none⟩) (b := ⟨g, off + j, none⟩) _ (fun e' => e (by have := congrArg Addr.off e'; simp at this; omega))]
          exact (h5 j hj).1
    · rw [Nat.mul_one]
      exact grown_setCell W1 g (off + ps.length) _
  · obtain ⟨v', w', hr, hown, hg⟩ := run_append_arg_grows (P := Ybaf.prog) W1 47 ty 9 i0 _ 1 16 Ybaf.underlying47 hi hz0 hz1 hz2 rfl (by decide) ⟨g, off, none⟩ ps.length cap (ps.map fun p => .string (nameOf p)) (by simp)
      (fun j u hj => by
        have hj' : j < ps.length := by simpa using (List.getElem?_eq_some_iff.1 hj).1
        have e : (⟨g, off, none⟩ : Addr).add j = ⟨g, off + j, none⟩ := by
          by_cases h0 : j = 0
          · subst h0; simp [Addr.add]
          · simp [Addr.add, h0]
        rw [e, h4 j hj']
        simpa [List.getD, List.getElem?_eq_getElem hj'] using hj)
      ⟨W.heap.size, 0, none⟩ 1 1 [.string (nameOf q)] rfl hnews (by omega) (by unfold maxLen; omega) (by omega)
    obtain ⟨g', cap', rfl, hb', hlt'⟩ := hown.form (by omega)
    refine ⟨g', 0, cap', w', hr, ?_, ⟨hg.os, hg.tape, hg.output, hg.size, fun k hk _ => hg.block k hk (by simp)⟩, .inr (by omega)⟩
    have hl : (ps ++ [q]).length = ps.length + 1 := by simp
    have hq := que_of_owns (B := W1.heap.size) (ps := ps ++ [q]) (W := w') (v := .slice (some ⟨g', 0, none⟩) (ps.length + 1) cap') (by rw [hl, List.map_append]; exact hown) (by simp)
    obtain ⟨a1, a2, a3, e1, e2, e3, e4, e5, e6⟩ := hq
    exact ⟨a1, a2, a3, e1, e2, by omega, e4, e5, e6⟩

theorem Que.pop {B : Nat} {W : World} {g off cap p : Nat} {T : List Nat} (hp : p < T.length) (h : Que B W (.slice (some ⟨g, off, none⟩) (T.drop p).length cap) (T.drop p)) : Que B W (.slice (some ⟨g, off + 1, none⟩) (T.drop (p + 1)).length (cap - 1)) (T.drop (p + 1)) := by
  obtain ⟨g', off', cap', e, h1, h2, h3, h4, h5⟩ := h
  simp only [Value.slice.injEq, Option.some.injEq, Addr.mk.injEq, and_true, true_and] at e
  obtain ⟨⟨rfl, rfl⟩, rfl⟩ := e
  have hl : (T.drop p).length = (T.drop (p + 1)).length + 1 := by simp; omega
  refine ⟨g, off + 1, cap - 1, rfl, by omega, h2, h3, fun j hj => ?_, fun j hj => ?_⟩
  · have := h4 (j + 1) (by omega)
    rw [show off + 1 + j = off + (j + 1) by omega, this]
    simp [List.getD, show p + 1 + j = p + (j + 1) by omega]
  · have := h5 (j + 1) (by omega)
    rw [show off + 1 + j = off + (j + 1) by omega]
    exact this

/-- The memory side. -/
structure CS (w : World) (b9 bm b11 b14 : Nat) (T : List Nat) (p : Nat) (n : Nat → Nat) (W : World) (qv : Value) : Prop where
  bel : Below w.heap.size w W
  l9 : w.heap.size ≤ b9
  lm : w.heap.size ≤ bm
  l11 : w.heap.size ≤ b11
  l14 : w.heap.size ≤ b14
  h9 : Boxed W b9 100 .nilFunc
  h11 : Boxed W b11 69 (.map (some bm))
  h14 : Boxed W b14 47 qv
  que : Que w.heap.size W qv (T.drop p)
  map : MapIs nameOf 7 W bm T.length (.int .i64 0) (fun q => if q ∈ T then .int .i64 (n q : Nat) else .int .i64 0) (fun q => decide (q ∈ T))
  ne : ∀ g, qv.ownBlock = some g → g ≠ b9 ∧ g ≠ b11 ∧ g ≠ b14 ∧ g ≠ bm
  n14 : b14 ≠ b9 ∧ b14 ≠ b11

variable {w : World} {b9 bm b11 b14 : Nat} {T : List Nat} {p : Nat} {n : Nat → Nat} {W : World} {qv : Value}

theorem CS.grown {W' : World} {row : Option Nat} (h : CS w b9 bm b11 b14 T p n W qv) (hg : W.grownBy W' row) (hr : ∀ r, row = some r → w.heap.size ≤ r ∧ r ≠ b9 ∧ r ≠ b11 ∧ r ≠ b14 ∧ r ≠ bm ∧ qv.ownBlock ≠ some r) : CS w b9 bm b11 b14 T p n W' qv := by
  have hne : ∀ b, (∀ r, row = some r → r ≠ b) → some b ≠ row := fun b hb e => hb b e.symm rfl
  refine ⟨h.bel.grown hg h.bel.size (fun k hk => (hr k hk).1), h.l9, h.lm, h.l11, h.l14, h.h9.kept hg (hne _ fun r hr' => (hr r hr').2.1), h.h11.kept hg (hne _ fun r hr' => (hr r hr').2.2.1), h.h14.kept hg (hne _ fun r hr' => (hr r hr').2.2.2.1), ?_, h.map.kept hg (hne _ fun r hr' => (hr r hr').2.2.2.2.1), h.ne, h.n14⟩
  exact h.que.keep (fun g hg' hlt => hg.block g hlt (fun e => (hr g e.symm).2.2.2.2.2 hg')) hg.size

theorem CS.below {W' : World} (h : CS w b9 bm b11 b14 T p n W qv) (hb : Below W.heap.size W W') : CS w b9 bm b11 b14 T p n W' qv :=
  h.grown (grown_of_below hb) (fun r e => by cases e)

theorem CS.alloc (h : CS w b9 bm b11 b14 T p n W qv) (o : Obj) : CS w b9 bm b11 b14 T p n (W.alloc o) qv := h.below ((Below.refl _ W).alloc (Nat.le_refl _) o)

/-- A new box for the queue, with another slice of it. -/
theorem CS.box {b14' p' : Nat} {qv' : Value} (h : CS w b9 bm b11 b14 T p n W qv) (hb : Boxed W b14' 47 qv') (hl : w.heap.size ≤ b14') (hq : Que w.heap.size W qv' (T.drop p')) (hn : ∀ g, qv'.ownBlock = some g → qv.ownBlock = some g ∧ g ≠ b14') (hne : b14' ≠ b9 ∧ b14' ≠ b11) : CS w b9 bm b11 b14' T p' n W qv' :=
  ⟨h.bel, h.l9, h.lm, h.l11, hl, h.h9, h.h11, hb, hq, h.map, fun g hg => ⟨(h.ne g (hn g hg).1).1, (h.ne g (hn g hg).1).2.1, (hn g hg).2, (h.ne g (hn g hg).1).2.2.2⟩, hne⟩

theorem CS.add {W1 W2 : World} {g off cap o k : Nat} (h : CS w b9 bm b11 b14 T p n W qv) (hT : o ∉ T) (hnk : n o = k) (hp : p ≤ T.length)
    (hm : MapIs nameOf 7 W1 bm (T.length + 1) (.int .i64 0) (fun q => if q = o then .int .i64 (k : Nat) else (if q ∈ T then .int .i64 (n q : Nat) else .int .i64 0)) (fun q => if q = o then true else decide (q ∈ T))) (hg1 : W.grownBy W1 (some bm))
    (hq : Que w.heap.size W2 (.slice (some ⟨g, off, none⟩) ((T.drop p).length + 1) cap) (T.drop p ++ [o])) (hg2 : (W1.alloc (.cells #[.string (nameOf o)] 9)).grownBy W2 qv.ownBlock) (hat : qv.ownBlock = some g ∨ W1.heap.size + 1 ≤ g) :
    CS w b9 bm b11 b14 (T ++ [o]) p n (W2.setCell ⟨b14, 0, none⟩ (.slice (some ⟨g, off, none⟩) ((T.drop p).length + 1) cap)) (.slice (some ⟨g, off, none⟩) ((T.drop p).length + 1) cap) := by
  have hl1 := hg1.size
  have hl2 := hg2.size
  simp at hl2
  have hb9 : some b9 ≠ some bm := fun e => by
    obtain ⟨_, ⟨es, cl, hb, _⟩, _⟩ := h.map
    have := h.h9
    unfold Boxed at this
    cases e
    rw [hb] at this
    cases this
  have hb11 : some b11 ≠ some bm := fun e => by
    obtain ⟨_, ⟨es, cl, hb, _⟩, _⟩ := h.map
    have := h.h11
    unfold Boxed at this
    cases e
    rw [hb] at this
    cases this
  have hb14 : some b14 ≠ some bm := fun e => by
    obtain ⟨_, ⟨es, cl, hb, _⟩, _⟩ := h.map
    have := h.h14
    unfold Boxed at this
    cases e
    rw [hb] at this
    cases this
  have f9 := h.h9.lt
  have f11 := h.h11.lt
  have f14 := h.h14.lt
  have fm := h.map.lt
  have k9 : Boxed W2 b9 100 .nilFunc := ((h.h9.kept hg1 hb9).alloc _).kept hg2 (fun e => (h.ne b9 e.symm).1 rfl)
  have k11 : Boxed W2 b11 69 (.map (some bm)) := ((h.h11.kept hg1 hb11).alloc _).kept hg2 (fun e => (h.ne b11 e.symm).2.1 rfl)
  have k14 : Boxed W2 b14 47 qv := ((h.h14.kept hg1 hb14).alloc _).kept hg2 (fun e => (h.ne b14 e.symm).2.2.1 rfl)
  have km := (hm.kept (World.grownBy_alloc W1 (.cells #[.string (nameOf o)] 9) none) (by simp)).kept hg2 (fun e => (h.ne bm e.symm).2.2.2 rfl)
  have hne : ∀ g', (Value.slice (some ⟨g, off, none⟩) ((T.drop p).length + 1) cap).ownBlock = some g' → g' ≠ b9 ∧ g' ≠ b11 ∧ g' ≠ b14 ∧ g' ≠ bm := by
    intro g' e
    have e' : g = g' := by simpa [Value.ownBlock] using e
    subst e'
    rcases hat with e1 | e1
    · exact h.ne g e1
    · exact ⟨by omega, by omega, by omega, by omega⟩
  have hb1 : Below w.heap.size w W1 := h.bel.grown hg1 h.bel.size (fun k hk => by cases hk; exact h.lm)
  have hb2 : Below w.heap.size w W2 := (hb1.alloc hb1.size _).grown hg2 (by have := hb1.size; simp; omega) (fun k hk => (h.que.lt hk).1)
  have hl : (T ++ [o]).length = T.length + 1 := by simp
  refine ⟨hb2.setCell h.l14 _, h.l9, h.lm, h.l11, h.l14, k9.kept (grown_setCell _ _ _ _) (by simpa using h.n14.1.symm), k11.kept (grown_setCell _ _ _ _) (by simpa using h.n14.2.symm), k14.set _, ?_, ?_, hne, h.n14⟩
  · rw [List.drop_append_of_le_length hp]
    refine hq.keep (fun g' e _ => ?_) (by simp [World.setCell])
    exact Below.heap_setCell _ _ _ _ (fun e' => (hne g' e).2.2.1 e')
  · rw [hl]
    have km' := km.kept (grown_setCell W2 b14 0 (.slice (some ⟨g, off, none⟩) ((T.drop p).length + 1) cap)) (fun e => hb14 e.symm)
    obtain ⟨D, h1, h2, h3⟩ := km'
    refine ⟨D, h1, fun q hq' => ?_, h3⟩
    rw [(h2 q hq').1, (h2 q hq').2]
    by_cases e : q = o
    · subst e
      simp [hnk]
    · simp [e]
end Go.Proofs.YbulkcfwsFmt
