import Derived.Test.YbulkcfwsFmtReach1
namespace Go.Proofs.YbulkcfwsFmt
open Go.RowKit Go.Shelf

theorem wpIn_loop_ghost {F : Fence} {n : Nat} {P : Program} {c : Code} {Q : Exit → Act → World → Prop} {a : Act} {w : World} (I : Nat → Act → World → Prop) (m : Nat) (h₀ : I m a w)
    (round : ∀ m a w, I m a w → c.wpIn F n P (Exit.then (fun a' w' => ∃ m', m' < m ∧ I m' a' w') Q) a w) : (Code.loop c).wpIn F n P Q a w := by
  have hmin : ∀ a w, (∃ m, I m a w) → ∃ m, I m a w ∧ ∀ k, I k a w → m ≤ k := by
    rintro a w ⟨m, hm⟩
    induction m using Nat.strongRecOn with
    | _ m ih =>
      by_cases h : ∃ k, k < m ∧ I k a w
      · obtain ⟨k, hk, hI⟩ := h
        exact ih k hk hI
      · refine ⟨m, hm, fun k hk => ?_⟩
        rcases Nat.lt_or_ge k m with h' | h'
        · exact absurd ⟨k, h', hk⟩ h
        · exact h'
  classical
  refine wpIn_loop (fun a w => ∃ m, I m a w) (fun a w => if h : ∃ m, I m a w then (hmin a w h).choose else 0) ⟨m, h₀⟩ (fun a w h => ?_)
  have hm := (hmin a w h).choose_spec
  refine wpIn_mono (round _ a w hm.1) (fun e a' w' hq => ?_)
  cases e with
  | normal =>
    obtain ⟨m', hlt, hI⟩ := hq
    refine ⟨⟨m', hI⟩, ?_⟩
    have hex : ∃ m, I m a' w' := ⟨m', hI⟩
    show (if h : ∃ m, I m a' w' then (hmin a' w' h).choose else 0) < (if h : ∃ m, I m a w then (hmin a w h).choose else 0)
    rw [dif_pos hex, dif_pos h]
    exact Nat.lt_of_le_of_lt ((hmin a' w' hex).choose_spec.2 m' hI) hlt
  | ret => exact hq
  | exit id => exact hq
  | goto t => exact hq
  | panic ch => exact hq
  | outgrown => exact hq

/-- The marks that the loops over the iterator have left. -/
def Marks (lo hi : Nat) (ds : List Deferred) (W : World) : Prop :=
  ∃ Ds : List Nat, ds = Ds.map (fun D => { target := .collected D, args := #[] }) ∧ Ds.Nodup ∧ ∀ D ∈ Ds, lo ≤ D ∧ D < hi ∧ W.heap[D]? = some (.deferred (some []))

theorem Marks.keep {lo hi hi' : Nat} {ds : List Deferred} {W W' : World} (h : Marks lo hi ds W) (hh : hi ≤ hi') (hk : ∀ D, lo ≤ D → D < hi → W.heap[D]? = some (.deferred (some [])) → W'.heap[D]? = W.heap[D]?) : Marks lo hi' ds W' := by
  obtain ⟨Ds, h1, h2, h3⟩ := h
  exact ⟨Ds, h1, h2, fun D hD => ⟨(h3 D hD).1, Nat.lt_of_lt_of_le (h3 D hD).2.1 hh, (hk D (h3 D hD).1 (h3 D hD).2.1 (h3 D hD).2.2).trans (h3 D hD).2.2⟩⟩

theorem Marks.cons {lo hi : Nat} {ds : List Deferred} {W : World} (h : Marks lo hi ds W) (D : Nat) (hD : hi ≤ D) (hlo : lo ≤ D) (hd : W.heap[D]? = some (.deferred (some []))) (hi' : Nat) (hlt : D < hi') (hh : hi ≤ hi') : Marks lo hi' ({ target := .collected D, args := #[] } :: ds) W := by
  obtain ⟨Ds, h1, h2, h3⟩ := h
  refine ⟨D :: Ds, by rw [h1]; rfl, ?_, ?_⟩
  · rw [List.nodup_cons]
    exact ⟨fun hm => by have := (h3 D hm).2.1; omega, h2⟩
  · intro D' hD'
    rcases List.mem_cons.1 hD' with rfl | hD'
    · exact ⟨hlo, hlt, hd⟩
    · exact ⟨(h3 D' hD').1, Nat.lt_of_lt_of_le (h3 D' hD').2.1 hh, (h3 D' hD').2.2⟩

theorem mapIs_obj {kf : Nat → ByteArray} {N : Nat} {w : World} {b n : Nat} {z : Value} {F : Nat → Value} {S : Nat → Bool} (h : MapIs kf N w b n z F S) : ∃ es cl, w.heap[b]? = some (.map es cl) := by
  obtain ⟨_, ⟨es, cl, hb, _⟩, _⟩ := h
  exact ⟨es, cl, hb⟩

theorem que_obj {B : Nat} {W : World} {v : Value} {ps : List Nat} (h : Que B W v ps) (hp : 0 < ps.length) {g : Nat} (hg : v.ownBlock = some g) : ∃ c e fr, W.heap[g]? = some (.cells c e fr) := by
  obtain ⟨g', off, cap, rfl, h1, h2, h3, h4, h5⟩ := h
  have e : g' = g := by simpa [Value.ownBlock] using hg
  subst e
  have := h4 0 hp
  unfold World.cell? at this
  cases hb : W.heap[g']? with
  | none => simp [hb] at this
  | some o =>
    cases o with
    | cells c e fr => exact ⟨c, e, fr, rfl⟩
    | _ => simp [hb] at this

/-- Inside a round of the queue's loop: between two rounds of the loop over the iterator. -/
structure RI (w : World) (b9 bm b11 b14 b15 : Nat) (p : Nat) (n : Nat → Nat) (ds : List Deferred) (a : Nat) (W2 : World) (T : List Nat) (W : World) (qv : Value) : Prop where
  cs : CS w b9 bm b11 b14 T p n W qv
  pos : p < T.length
  at15 : Boxed W b15 9 (.string (nameOf a))
  keep : ∀ k, b15 + 1 ≤ k → k < b15 + 5 → W.heap[k]? = W2.heap[k]?
  sz : b15 + 5 ≤ W.heap.size
  own : ∀ g, qv.ownBlock = some g → g < b15 ∨ b15 + 5 ≤ g
  marks : Marks w.heap.size b15 ds W
  small : b9 < b15 ∧ bm < b15 ∧ b11 < b15 ∧ b14 < b15
  lo : w.heap.size ≤ b15

variable {w : World} {b9 bm b11 b14 b15 : Nat} {p : Nat} {n : Nat → Nat} {ds : List Deferred} {a : Nat} {W2 : World} {T : List Nat} {W : World} {qv : Value}

theorem RI.far {W' : World} {row : Option Nat} (h : RI w b9 bm b11 b14 b15 p n ds a W2 T W qv) (hg : W.grownBy W' row) (hr : ∀ r, row = some r → b15 + 5 ≤ r ∧ ∃ o : Obj, W.heap[r]? = some o ∧ o.isCells = false) : RI w b9 bm b11 b14 b15 p n ds a W2 T W' qv := by
  obtain ⟨s1, s2, s3, s4⟩ := h.small
  have hne : ∀ b, b < b15 + 5 → some b ≠ row := fun b hb e => by have := (hr b e.symm).1; omega
  refine ⟨h.cs.grown hg (fun r e => ?_), h.pos, h.at15.kept hg (hne _ (by omega)), fun k h1 h2 => (hg.block k (by have := h.sz; omega) (hne k h2)).trans (h.keep k h1 h2), Nat.le_trans h.sz hg.size, h.own, h.marks.keep (Nat.le_refl _) (fun D _ hD _ => hg.block D (by have := h.sz; omega) (hne D (by omega))), h.small, h.lo⟩
  obtain ⟨h1, o, ho, hc⟩ := hr r e
  refine ⟨by have := h.lo; omega, by omega, by omega, by omega, by omega, fun e' => ?_⟩
  obtain ⟨c, e2, fr, hcell⟩ := que_obj h.cs.que (by have := h.pos; simp; omega) e'
  rw [hcell] at ho
  cases ho
  cases hc

theorem RI.add {W1 Wg : World} {g off cap o k : Nat} (h : RI w b9 bm b11 b14 b15 p n ds a W2 T W qv) (hT : o ∉ T) (hnk : n o = k)
    (hm : MapIs nameOf 7 W1 bm (T.length + 1) (.int .i64 0) (fun q => if q = o then .int .i64 (k : Nat) else (if q ∈ T then .int .i64 (n q : Nat) else .int .i64 0)) (fun q => if q = o then true else decide (q ∈ T))) (hg1 : W.grownBy W1 (some bm))
    (hq : Que w.heap.size Wg (.slice (some ⟨g, off, none⟩) ((T.drop p).length + 1) cap) (T.drop p ++ [o])) (hg2 : (W1.alloc (.cells #[.string (nameOf o)] 9)).grownBy Wg qv.ownBlock) (hat : qv.ownBlock = some g ∨ W1.heap.size + 1 ≤ g) :
    RI w b9 bm b11 b14 b15 p n ds a W2 (T ++ [o]) (Wg.setCell ⟨b14, 0, none⟩ (.slice (some ⟨g, off, none⟩) ((T.drop p).length + 1) cap)) (.slice (some ⟨g, off, none⟩) ((T.drop p).length + 1) cap) ∧
      KeepsFrom (b15 + 5) W (Wg.setCell ⟨b14, 0, none⟩ (.slice (some ⟨g, off, none⟩) ((T.drop p).length + 1) cap)) ∧ Kept w.heap.size (b15 + 1) W (Wg.setCell ⟨b14, 0, none⟩ (.slice (some ⟨g, off, none⟩) ((T.drop p).length + 1) cap)) := by
  obtain ⟨s1, s2, s3, s4⟩ := h.small
  have hsz := h.sz
  have hl1 := hg1.size
  have hl2 := hg2.size
  simp at hl2
  have hgs := grown_setCell Wg b14 0 (.slice (some ⟨g, off, none⟩) ((T.drop p).length + 1) cap)
  have hsame : ∀ b, b < W.heap.size → b ≠ bm → b ≠ b14 → qv.ownBlock ≠ some b → (Wg.setCell ⟨b14, 0, none⟩ (.slice (some ⟨g, off, none⟩) ((T.drop p).length + 1) cap)).heap[b]? = W.heap[b]? := by
    intro b hb hbm hb14 hown
    refine (hgs.block b (by omega) (fun e => hb14 (by cases e; rfl))).trans ((hg2.block b (by simp; omega) (fun e => hown e.symm)).trans ((Below.heap_alloc _ _ _ (by omega)).trans (hg1.block b hb (fun e => hbm (by cases e; rfl)))))
  have hcell : ∀ g', qv.ownBlock = some g' → ∃ c e fr, W.heap[g']? = some (.cells c e fr) := fun g' e => que_obj h.cs.que (by have := h.pos; simp; omega) e
  refine ⟨⟨h.cs.add hT hnk (Nat.le_of_lt h.pos) hm hg1 hq hg2 hat, by have := h.pos; simp; omega, ?_, ?_, ?_, ?_, ?_, h.small, h.lo⟩, ?_, ?_⟩
  · exact (hsame b15 (by omega) (by omega) (by omega) (fun e => by rcases h.own b15 e with h1 | h1 <;> omega)).trans h.at15
  · intro k h1 h2
    exact (hsame k (by omega) (by omega) (by omega) (fun e => by rcases h.own k e with h1 | h1 <;> omega)).trans (h.keep k h1 h2)
  · have := hgs.size
    omega
  · intro g' e
    have e' : g = g' := by simpa [Value.ownBlock] using e
    subst e'
    rcases hat with e1 | e1
    · exact h.own g e1
    · exact .inr (by omega)
  · refine h.marks.keep (Nat.le_refl _) (fun D _ hD hd => hsame D (by omega) ?_ ?_ ?_)
    · rintro rfl
      obtain ⟨es, cl, hb⟩ := mapIs_obj h.cs.map
      rw [hb] at hd
      cases hd
    · rintro rfl
      have := h.cs.h14
      unfold Boxed at this
      rw [this] at hd
      cases hd
    · intro e
      obtain ⟨c, e2, fr, hc⟩ := hcell D e
      rw [hc] at hd
      cases hd
  · have k1 : KeepsFrom (b15 + 5) W W1 := KeepsFrom.of_grownBy hg1 (fun j e => by cases e; omega)
    have k2 : KeepsFrom (b15 + 5) W1 (W1.alloc (.cells #[.string (nameOf o)] 9)) := (KeepsOthers.alloc _ _).from _
    have k3 : KeepsFrom (b15 + 5) (W1.alloc (.cells #[.string (nameOf o)] 9)) Wg := (KeepsOthers.of_grownBy hg2 (fun j ob e hj => by
      obtain ⟨c, e2, fr, hc⟩ := hcell j e
      have hlt := (Array.getElem?_eq_some_iff.1 hc).1
      have hb : (W1.alloc (.cells #[.string (nameOf o)] 9)).heap[j]? = W.heap[j]? := (Below.heap_alloc _ _ _ (by omega)).trans (hg1.block j hlt (fun e' => (h.cs.ne j e).2.2.2 (by cases e'; rfl)))
      rw [hb, hc] at hj
      cases hj
      rfl)).from _
    exact ((k1.trans k2).trans k3).trans ((KeepsOthers.setCell _ _ _).from _)
  · refine ⟨by have := hgs.size; omega, fun k hk => ?_⟩
    have hlo := h.lo
    have l1 := h.cs.lm
    have l2 := h.cs.l14
    rcases hk with hk | ⟨h1, h2⟩
    · exact hsame k (by have := h.cs.bel.size; omega) (by omega) (by omega) (fun e => by have := (h.cs.que.lt e).1; omega)
    · exact hsame k (by omega) (by omega) (by omega) (fun e => by rcases h.own k e with h3 | h3 <;> omega)

theorem Que.pop1 {B : Nat} {g off cap ql : Nat} (h : Que B W (.slice (some ⟨g, off, none⟩) ql cap) (T.drop p)) (hql : (T.drop p).length = ql) (hp : p < T.length) : Que B W (.slice (some ⟨g, off + 1, none⟩) (ql - 1) (cap - 1)) (T.drop (p + 1)) := by
  subst hql
  have := Que.pop hp h
  have hl : (T.drop p).length - 1 = (T.drop (p + 1)).length := by simp; omega
  rw [hl]
  exact this

theorem Que.pop0 {B : Nat} {g off cap ql : Nat} (h : Que B W (.slice (some ⟨g, off, none⟩) ql cap) (T.drop p)) (hql : (T.drop p).length = ql) (hc : cap ≤ 1) : Que B W (.slice (some ⟨g, off, none⟩) (ql - 1) 0) (T.drop (p + 1)) := by
  have hl : (T.drop (p + 1)).length = (T.drop p).length - 1 := by simp; omega
  obtain ⟨g', off', cap', e, h1, h2, h3, h4, h5⟩ := h
  simp only [Value.slice.injEq, Option.some.injEq, Addr.mk.injEq, and_true] at e
  obtain ⟨⟨rfl, rfl⟩, -, rfl⟩ := e
  have h0 : (T.drop (p + 1)).length = 0 := by omega
  exact ⟨g, off, 0, by rw [h0]; congr 1; omega, by omega, h2, h3, fun j hj => by omega, fun j hj => by omega⟩

theorem CS.finish {b14 : Nat} (h : CS w b9 bm b11 b14 T p n W qv) (qv' : Value) (hq : Que w.heap.size W qv' (T.drop (p + 1))) (hn : ∀ g, qv'.ownBlock = some g → qv.ownBlock = some g) : CS w b9 bm b11 W.heap.size T (p + 1) n (W.alloc (.cells #[qv'] 47)) qv' := by
  have h' := h.alloc (.cells #[qv'] 47)
  refine h'.box (Boxed.new W 47 qv') h.bel.size (hq.keep (fun g _ hlt => Below.heap_alloc _ _ _ hlt) (by simp)) (fun g hg => ⟨hn g hg, ?_⟩) ⟨?_, ?_⟩
  · have := (h.que.lt (hn g hg)).2
    omega
  · have := h.h9.lt
    omega
  · have := h.h11.lt
    omega

theorem Marks.alloc {lo : Nat} (h : Marks lo W.heap.size ds W) (o : Obj) : Marks lo (W.alloc o).heap.size ds (W.alloc o) := h.keep (by simp) (fun D _ hD _ => Below.heap_alloc _ _ _ hD)

theorem RI.finish (h : RI w b9 bm b11 b14 b15 p n ds a W2 T W qv) (qv' : Value) (hq : Que w.heap.size W qv' (T.drop (p + 1))) (hn : ∀ g, qv'.ownBlock = some g → qv.ownBlock = some g) (D : Nat) (hD : b15 + 5 ≤ D) (hK : W.heap[D]? = some (.deferred (some []))) :
    CS w b9 bm b11 W.heap.size T (p + 1) n (W.alloc (.cells #[qv'] 47)) qv' ∧ Marks w.heap.size (W.alloc (.cells #[qv'] 47)).heap.size ({ target := .collected D, args := #[] } :: ds) (W.alloc (.cells #[qv'] 47)) := by
  refine ⟨h.cs.finish qv' hq hn, ?_⟩
  have hlt := (Array.getElem?_eq_some_iff.1 hK).1
  have hsz := h.sz
  have hm : Marks w.heap.size b15 ds (W.alloc (.cells #[qv'] 47)) := h.marks.keep (Nat.le_refl _) (fun D _ hD _ => Below.heap_alloc _ _ _ (by omega))
  exact hm.cons D (by omega) (by have := h.lo; omega) ((Below.heap_alloc _ _ _ hlt).trans hK) _ (by simp; omega) (by simp; omega)

theorem leaves_marks {fn : Func} {tmps : Array Value} {R : Ending → World → Prop} (lo hi : Nat) (ds : List Deferred) (W : World) (hM : Marks lo hi ds W)
    (hR : ∀ W', W.heap.size = W'.heap.size → W'.os = W.os → W'.tape = W.tape → W'.output = W.output → (∀ b, (lo ≤ b → W.heap[b]? ≠ some (.deferred (some []))) → W'.heap[b]? = W.heap[b]?) → LeavesInM Fence.wide 10 Ybaf.prog fn tmps R [] .returning W') :
    LeavesInM Fence.wide 10 Ybaf.prog fn tmps R ds .returning W := by
  obtain ⟨Ds, rfl, hnd, hall⟩ := hM
  induction Ds generalizing W with
  | nil => exact hR W rfl rfl rfl rfl (fun _ _ => rfl)
  | cons D Ds ih =>
    rw [List.nodup_cons] at hnd
    have hD := hall D List.mem_cons_self
    refine ⟨by simp, .inl ⟨D, W.putObj D (.deferred none), rfl, run_takeDeferred hD.2.2, ?_⟩⟩
    refine ih (W.putObj D (.deferred none)) ?_ hnd.2 ?_
    · intro W' h1 h2 h3 h4 h5
      refine hR W' (by simpa using h1) h2 h3 h4 (fun b hb => ?_)
      by_cases e : b = D
      · subst e
        exact absurd hD.2.2 (hb hD.1)
      · have e1 : (W.putObj D (.deferred none)).heap[b]? = W.heap[b]? := World.putObj_heap_other (fun e' => e e')
        rw [← e1]
        exact h5 b (fun hlo => by rw [e1]; exact hb hlo)
    · intro D' hD'
      have h' := hall D' (List.mem_cons_of_mem _ hD')
      refine ⟨h'.1, h'.2.1, ?_⟩
      rw [World.putObj_heap_other (fun e => hnd.1 (by rw [← e]; exact hD'))]
      exact h'.2.2
end Go.Proofs.YbulkcfwsFmt
