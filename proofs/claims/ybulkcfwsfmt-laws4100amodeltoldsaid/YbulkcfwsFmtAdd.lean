import Derived.Test.YbulkcfwsFmtNew
namespace Go.Proofs.YbulkcfwsFmt
open Go.RowKit

variable {B : Nat} {W : World} {rb b1 b3 b4 b5 : Nat} {v2 : Value} {F4 F5 : Nat → Value} {L2 : List Rel} {n3 : Nat} {L4 L5 : List Rel}

/-- The id is laid into its map. -/
theorem RegS.add3 {W1 : World} {F3 : Nat → Value} (h : RegS B W rb b1 b3 b4 b5 v2 F4 F5 L2 n3 L4 L5) (hm : MapIs idOf 32 W1 b3 (n3 + 1) (.int .i64 0) F3 (fun q => if q = n3 then true else decide (q < n3))) (hg : W.grownBy W1 (some b3)) :
    RegS B W1 rb b1 b3 b4 b5 v2 F4 F5 L2 (n3 + 1) L4 L5 := by
  obtain ⟨m1, m2, m3, m4, m5, m6⟩ := h.m45
  have hsame : ∀ b, b < W.heap.size → b ≠ b3 → W1.heap[b]? = W.heap[b]? := fun b hb hne => hg.block b hb (fun e => hne (by cases e; rfl))
  refine ⟨h.lo, (hsame rb (Array.getElem?_eq_some_iff.1 h.reg).1 h.rbm.2.1).trans h.reg, owns_heap h.own2 (fun g e => hsame g (h.own2.lt g e).2 (h.maps (i := 0) (by decide) e).2.2.1), h.m1.heap (hsame _ h.m1.lt (by omega)), ⟨F3, ?_⟩, ?_, ?_, ?_, ?_, h.sep, h.m45⟩
  · obtain ⟨D, h1, h2, h3⟩ := hm
    refine ⟨D, h1, fun q hq => ⟨(h2 q hq).1, (h2 q hq).2.trans ?_⟩, h3⟩
    by_cases e : q = n3
    · subst e; simp
    · simp [e]; omega
  · obtain ⟨n4, S4, hn, hm⟩ := h.m4
    exact ⟨n4, S4, hn, hm.heap (hsame _ hm.lt (by omega))⟩
  · obtain ⟨n5, S5, hn, hm⟩ := h.m5
    exact ⟨n5, S5, hn, hm.heap (hsame _ hm.lt (by omega))⟩
  · intro p hp
    have e1 : ownOf v2 F4 F5 (p + 1) = (F4 p).ownBlock := by unfold ownOf; rw [if_neg (by omega), if_pos (by omega)]; rfl
    exact owns_heap (h.o4 p hp) (fun g e => hsame g ((h.o4 p hp).lt g e).2 (h.maps (i := p + 1) (by omega) (e1.trans e)).2.2.1)
  · intro p hp
    have e1 : ownOf v2 F4 F5 (p + 8) = (F5 p).ownBlock := by unfold ownOf; rw [if_neg (by omega), if_neg (by omega)]; rfl
    exact owns_heap (h.o5 p hp) (fun g e => hsame g ((h.o5 p hp).lt g e).2 (h.maps (i := p + 8) (by omega) (e1.trans e)).2.2.1)

theorem intsV_snoc (xs : List Nat) (i : Nat) : intsV (xs ++ [i]) = intsV xs ++ [.int .i64 (i : Nat)] := by simp [intsV, ofNats]

/-- The row of party q grows by one, and is laid into its map. -/
theorem RegS.add4 {W1 W2 W3 : World} {g cap q i : Nat} {x : Rel} {o : Obj} {n4 : Nat} {S4 : Nat → Bool} (h : RegS B W rb b1 b3 b4 b5 v2 F4 F5 L2 n3 L4 L5) (hq : q < 7) (hx : x.fr = q) (hi : L4.length = i) (hW1 : W1 = W.alloc o) (hn4 : n4 ≤ L4.length)
    (hown : W2.ownsRow B 3 1 (.slice (some ⟨g, 0, none⟩) ((fromIdx L4 q).length + 1) cap) ((fromIdx L4 q).length + 1) (intsV (fromIdx L4 q) ++ [.int .i64 (i : Nat)])) (hg : W1.grownBy W2 (F4 q).ownBlock) (hat : (F4 q).ownBlock = some g ∨ g = W1.heap.size)
    (hm : MapIs nameOf 7 W3 b4 (n4 + 1) (.slice none (0 : Nat) 0) (fun p => if p = q then .slice (some ⟨g, 0, none⟩) ((fromIdx L4 q).length + 1) cap else F4 p) S4) (hg3 : W2.grownBy W3 (some b4)) :
    RegS B W3 rb b1 b3 b4 b5 v2 (fun p => if p = q then .slice (some ⟨g, 0, none⟩) ((fromIdx L4 q).length + 1) cap else F4 p) F5 L2 n3 (L4 ++ [x]) L5 := by
  have h1 : RegS B W1 rb b1 b3 b4 b5 v2 F4 F5 L2 n3 L4 L5 := by rw [hW1]; exact h.alloc o
  obtain ⟨t1, t2, t3, t4, t5, t6⟩ := h1.m45
  obtain ⟨r1, r3, r4, r5⟩ := h1.rbm
  have eq4 : ∀ p, p < 7 → ownOf v2 F4 F5 (p + 1) = (F4 p).ownBlock := fun p hp => by unfold ownOf; rw [if_neg (by omega), if_pos (by omega)]; rfl
  have eq5 : ∀ p, p < 7 → ownOf v2 F4 F5 (p + 8) = (F5 p).ownBlock := fun p hp => by unfold ownOf; rw [if_neg (by omega), if_neg (by omega)]; rfl
  have hq4 : ∀ g', (F4 q).ownBlock = some g' → g' ≠ rb ∧ g' ≠ b1 ∧ g' ≠ b3 ∧ g' ≠ b4 ∧ g' ≠ b5 := fun g' e => h1.maps (i := q + 1) (by omega) ((eq4 q hq).trans e)
  have hsame : ∀ b, b < W1.heap.size → b ≠ b4 → (∀ g', (F4 q).ownBlock = some g' → g' ≠ b) → W3.heap[b]? = W1.heap[b]? := fun b hb hne hv =>
    (hg3.block b (Nat.lt_of_lt_of_le hb hg.size) (fun e => hne (by cases e; rfl))).trans (hg.block b hb (fun e => hv b e.symm rfl))
  have hother : ∀ k, k ≠ q + 1 → k < 15 → ∀ g', ownOf v2 F4 F5 k = some g' → ∀ g'', (F4 q).ownBlock = some g'' → g'' ≠ g' := fun k hk hk15 g' e g'' e' e'' => by
    subst e''
    have := h1.sep (q + 1) k g'' (by omega) hk15 ((eq4 q hq).trans e') e
    omega
  have hgb4 : g ≠ b4 := by
    rcases hat with e | e
    · exact (hq4 g e).2.2.2.1
    · obtain ⟨_, _, _, hm4⟩ := h1.m4
      have := hm4.lt
      omega
  refine ⟨h1.lo, (hsame rb (Array.getElem?_eq_some_iff.1 h1.reg).1 r4 fun g' e => (hq4 g' e).1).trans h1.reg, owns_heap h1.own2 (fun g' e => hsame g' (h1.own2.lt g' e).2 (h1.maps (i := 0) (by decide) e).2.2.2.1 (hother 0 (by omega) (by decide) g' e)), h1.m1.heap (hsame _ h1.m1.lt (by omega) fun g' e => (hq4 g' e).2.1), ?_, ⟨n4 + 1, S4, by simp; omega, hm⟩, ?_, ?_, ?_, ?_, h1.m45⟩
  · obtain ⟨F3, hm3⟩ := h1.m3
    exact ⟨F3, hm3.heap (hsame _ hm3.lt (by omega) fun g' e => (hq4 g' e).2.2.1)⟩
  · obtain ⟨n5, S5, hn, hm5⟩ := h1.m5
    exact ⟨n5, S5, hn, hm5.heap (hsame _ hm5.lt (by omega) fun g' e => (hq4 g' e).2.2.2.2)⟩
  · intro p hp
    rw [fromIdx_snoc, hx, hi]
    by_cases e : p = q
    · subst e
      simp only [beq_self_eq_true, if_true]
      rw [intsV_snoc, List.length_append]
      exact owns_heap hown (fun g' e' => by
        have eg : g = g' := by simpa [Value.ownBlock] using e'
        subst eg
        exact hg3.block g (hown.lt g e').2 (fun e => hgb4 (by cases e; rfl)))
    · have e' : (q == p) = false := by simp; omega
      simp only [e', if_neg e]
      simp only [Bool.false_eq_true, if_false, List.append_nil]
      exact owns_heap (h1.o4 p hp) (fun g' eg => hsame g' ((h1.o4 p hp).lt g' eg).2 (h1.maps (i := p + 1) (by omega) ((eq4 p hp).trans eg)).2.2.2.1 (hother (p + 1) (by omega) (by omega) g' ((eq4 p hp).trans eg)))
  · intro p hp
    exact owns_heap (h1.o5 p hp) (fun g' eg => hsame g' ((h1.o5 p hp).lt g' eg).2 (h1.maps (i := p + 8) (by omega) ((eq5 p hp).trans eg)).2.2.2.1 (hother (p + 8) (by omega) (by omega) g' ((eq5 p hp).trans eg)))
  · intro i' j g' hi' hj ei ej
    have hk : ∀ k, k ≠ q + 1 → ownOf v2 (fun p => if p = q then .slice (some ⟨g, 0, none⟩) ((fromIdx L4 q).length + 1) cap else F4 p) F5 k = ownOf v2 F4 F5 k := fun k hk => by
      unfold ownOf
      split
      · rfl
      · split
        · show (if k - 1 = q then _ else F4 (k - 1)).ownBlock = _
          rw [if_neg (by omega)]
        · rfl
    have h0 : ∀ g', ownOf v2 (fun p => if p = q then .slice (some ⟨g, 0, none⟩) ((fromIdx L4 q).length + 1) cap else F4 p) F5 (q + 1) = some g' → g = g' := fun g' e => by
      unfold ownOf at e
      rw [if_neg (by omega), if_pos (by omega)] at e
      simpa [Value.ownBlock] using e
    have hcross : ∀ k, k ≠ q + 1 → k < 15 → ownOf v2 F4 F5 k = some g' → g = g' → False := by
      intro k hk0 hk15 e eg
      subst eg
      rcases hat with e' | e'
      · have := h1.sep (q + 1) k g (by omega) hk15 ((eq4 q hq).trans e') e
        omega
      · obtain ⟨_, c, e2, hc, _⟩ := h1.obj hk15 e
        have := (Array.getElem?_eq_some_iff.1 hc).1
        omega
    by_cases i0 : i' = q + 1
    · by_cases j0 : j = q + 1
      · omega
      · subst i0
        rw [hk j j0] at ej
        exact (hcross j j0 hj ej (h0 g' ei)).elim
    · by_cases j0 : j = q + 1
      · subst j0
        rw [hk i' i0] at ei
        exact (hcross i' i0 hi' ei (h0 g' ej)).elim
      · rw [hk i' i0] at ei
        rw [hk j j0] at ej
        exact h1.sep i' j g' hi' hj ei ej

/-- The row of party q grows by one, and is laid into its map. -/
theorem RegS.add5 {W1 W2 W3 : World} {g cap q i : Nat} {x : Rel} {o : Obj} {n5 : Nat} {S5 : Nat → Bool} (h : RegS B W rb b1 b3 b4 b5 v2 F4 F5 L2 n3 L4 L5) (hq : q < 7) (hx : x.to = q) (hi : L5.length = i) (hW1 : W1 = W.alloc o) (hn5 : n5 ≤ L5.length)
    (hown : W2.ownsRow B 3 1 (.slice (some ⟨g, 0, none⟩) ((toIdx L5 q).length + 1) cap) ((toIdx L5 q).length + 1) (intsV (toIdx L5 q) ++ [.int .i64 (i : Nat)])) (hg : W1.grownBy W2 (F5 q).ownBlock) (hat : (F5 q).ownBlock = some g ∨ g = W1.heap.size)
    (hm : MapIs nameOf 7 W3 b5 (n5 + 1) (.slice none (0 : Nat) 0) (fun p => if p = q then .slice (some ⟨g, 0, none⟩) ((toIdx L5 q).length + 1) cap else F5 p) S5) (hg3 : W2.grownBy W3 (some b5)) :
    RegS B W3 rb b1 b3 b4 b5 v2 F4 (fun p => if p = q then .slice (some ⟨g, 0, none⟩) ((toIdx L5 q).length + 1) cap else F5 p) L2 n3 L4 (L5 ++ [x]) := by
  have h1 : RegS B W1 rb b1 b3 b4 b5 v2 F4 F5 L2 n3 L4 L5 := by rw [hW1]; exact h.alloc o
  obtain ⟨t1, t2, t3, t4, t5, t6⟩ := h1.m45
  obtain ⟨r1, r3, r4, r5⟩ := h1.rbm
  have eq4 : ∀ p, p < 7 → ownOf v2 F4 F5 (p + 1) = (F4 p).ownBlock := fun p hp => by unfold ownOf; rw [if_neg (by omega), if_pos (by omega)]; rfl
  have eq5 : ∀ p, p < 7 → ownOf v2 F4 F5 (p + 8) = (F5 p).ownBlock := fun p hp => by unfold ownOf; rw [if_neg (by omega), if_neg (by omega)]; rfl
  have hq5 : ∀ g', (F5 q).ownBlock = some g' → g' ≠ rb ∧ g' ≠ b1 ∧ g' ≠ b3 ∧ g' ≠ b4 ∧ g' ≠ b5 := fun g' e => h1.maps (i := q + 8) (by omega) ((eq5 q hq).trans e)
  have hsame : ∀ b, b < W1.heap.size → b ≠ b5 → (∀ g', (F5 q).ownBlock = some g' → g' ≠ b) → W3.heap[b]? = W1.heap[b]? := fun b hb hne hv =>
    (hg3.block b (Nat.lt_of_lt_of_le hb hg.size) (fun e => hne (by cases e; rfl))).trans (hg.block b hb (fun e => hv b e.symm rfl))
  have hother : ∀ k, k ≠ q + 8 → k < 15 → ∀ g', ownOf v2 F4 F5 k = some g' → ∀ g'', (F5 q).ownBlock = some g'' → g'' ≠ g' := fun k hk hk15 g' e g'' e' e'' => by
    subst e''
    have := h1.sep (q + 8) k g'' (by omega) hk15 ((eq5 q hq).trans e') e
    omega
  have hgb5 : g ≠ b5 := by
    rcases hat with e | e
    · exact (hq5 g e).2.2.2.2
    · obtain ⟨_, _, _, hm4⟩ := h1.m5
      have := hm4.lt
      omega
  refine ⟨h1.lo, (hsame rb (Array.getElem?_eq_some_iff.1 h1.reg).1 r5 fun g' e => (hq5 g' e).1).trans h1.reg, owns_heap h1.own2 (fun g' e => hsame g' (h1.own2.lt g' e).2 (h1.maps (i := 0) (by decide) e).2.2.2.2 (hother 0 (by omega) (by decide) g' e)), h1.m1.heap (hsame _ h1.m1.lt (by omega) fun g' e => (hq5 g' e).2.1), ?_, ?_, ⟨n5 + 1, S5, by simp; omega, hm⟩, ?_, ?_, ?_, h1.m45⟩
  · obtain ⟨F3, hm3⟩ := h1.m3
    exact ⟨F3, hm3.heap (hsame _ hm3.lt (by omega) fun g' e => (hq5 g' e).2.2.1)⟩
  · obtain ⟨n4, S4, hn, hm4⟩ := h1.m4
    exact ⟨n4, S4, hn, hm4.heap (hsame _ hm4.lt (by omega) fun g' e => (hq5 g' e).2.2.2.1)⟩
  · intro p hp
    exact owns_heap (h1.o4 p hp) (fun g' eg => hsame g' ((h1.o4 p hp).lt g' eg).2 (h1.maps (i := p + 1) (by omega) ((eq4 p hp).trans eg)).2.2.2.2 (hother (p + 1) (by omega) (by omega) g' ((eq4 p hp).trans eg)))
  · intro p hp
    rw [toIdx_snoc, hx, hi]
    by_cases e : p = q
    · subst e
      simp only [beq_self_eq_true, if_true]
      rw [intsV_snoc, List.length_append]
      exact owns_heap hown (fun g' e' => by
        have eg : g = g' := by simpa [Value.ownBlock] using e'
        subst eg
        exact hg3.block g (hown.lt g e').2 (fun e => hgb5 (by cases e; rfl)))
    · have e' : (q == p) = false := by simp; omega
      simp only [e', if_neg e]
      simp only [Bool.false_eq_true, if_false, List.append_nil]
      exact owns_heap (h1.o5 p hp) (fun g' eg => hsame g' ((h1.o5 p hp).lt g' eg).2 (h1.maps (i := p + 8) (by omega) ((eq5 p hp).trans eg)).2.2.2.2 (hother (p + 8) (by omega) (by omega) g' ((eq5 p hp).trans eg)))
  · intro i' j g' hi' hj ei ej
    have hk : ∀ k, k < 15 → k ≠ q + 8 → ownOf v2 F4 (fun p => if p = q then .slice (some ⟨g, 0, none⟩) ((toIdx L5 q).length + 1) cap else F5 p) k = ownOf v2 F4 F5 k := fun k hk15 hk => by
      unfold ownOf
      split
      · rfl
      · split
        · rfl
        · show (if k - 8 = q then _ else F5 (k - 8)).ownBlock = _
          rw [if_neg (by omega)]
    have h0 : ∀ g', ownOf v2 F4 (fun p => if p = q then .slice (some ⟨g, 0, none⟩) ((toIdx L5 q).length + 1) cap else F5 p) (q + 8) = some g' → g = g' := fun g' e => by
      unfold ownOf at e
      rw [if_neg (by omega), if_neg (by omega)] at e
      simpa [Value.ownBlock] using e
    have hcross : ∀ k, k ≠ q + 8 → k < 15 → ownOf v2 F4 F5 k = some g' → g = g' → False := by
      intro k hk0 hk15 e eg
      subst eg
      rcases hat with e' | e'
      · have := h1.sep (q + 8) k g (by omega) hk15 ((eq5 q hq).trans e') e
        omega
      · obtain ⟨_, c, e2, hc, _⟩ := h1.obj hk15 e
        have := (Array.getElem?_eq_some_iff.1 hc).1
        omega
    by_cases i0 : i' = q + 8
    · by_cases j0 : j = q + 8
      · omega
      · subst i0
        rw [hk j hj j0] at ej
        exact (hcross j j0 hj ej (h0 g' ei)).elim
    · by_cases j0 : j = q + 8
      · subst j0
        rw [hk i' hi' i0] at ei
        exact (hcross i' i0 hi' ei (h0 g' ej)).elim
      · rw [hk i' hi' i0] at ei
        rw [hk j hj j0] at ej
        exact h1.sep i' j g' hi' hj ei ej

end Go.Proofs.YbulkcfwsFmt
