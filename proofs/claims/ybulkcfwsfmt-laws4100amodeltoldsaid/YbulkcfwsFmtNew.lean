import Derived.Test.YbulkcfwsFmtRegW
import Derived.Deep.RegionLaw
namespace Go.Proofs.YbulkcfwsFmt
open Go.RowKit

set_option maxHeartbeats 1000000 in
theorem new_any (w : World) : Calls Ybaf.prog 4 #[] w fun e w' => e = .returned (.pointer (some ⟨w.heap.size + 4, 0, none⟩)) ∧ RegS w.heap.size w' (w.heap.size + 4) w.heap.size (w.heap.size + 1) (w.heap.size + 2) (w.heap.size + 3) (.slice none (0 : Nat) 0) (fun _ => .slice none (0 : Nat) 0) (fun _ => .slice none (0 : Nat) 0) [] 0 [] [] ∧ Below w.heap.size w w' := by
  have hmm := @run_makeMap Ybaf.prog
  go_enter Ybaf.func4, Ybaf.ntmps4
  go_wp2
  go_ret
  refine ⟨rfl, ?_, ((((((Below.refl _ w).alloc (Nat.le_refl _) _).alloc (by simp) _).alloc (by simp; omega) _).alloc (by simp; omega) _).alloc (by simp; omega) _)⟩
  have hb : ∀ (W : World) (o : Obj) (k : Nat), k < W.heap.size → (W.alloc o).heap[k]? = W.heap[k]? := fun W o k h => Below.heap_alloc W o k h
  have hm : ∀ (kf : Nat → ByteArray) (N : Nat) (z : Value) (W : World), MapIs kf N (W.alloc (.map #[] 0)) W.heap.size 0 z (fun _ => z) (fun _ => false) := fun kf N z W => mapIs_made kf N W z
  have e1 : (w.alloc (.map #[] 0)).heap.size = w.heap.size + 1 := by simp
  have e2 : ((w.alloc (.map #[] 0)).alloc (.map #[] 0)).heap.size = w.heap.size + 2 := by simp
  have e3 : (((w.alloc (.map #[] 0)).alloc (.map #[] 0)).alloc (.map #[] 0)).heap.size = w.heap.size + 3 := by simp
  have e4 : ((((w.alloc (.map #[] 0)).alloc (.map #[] 0)).alloc (.map #[] 0)).alloc (.map #[] 0)).heap.size = w.heap.size + 4 := by simp
  have ka : ∀ {kf : Nat → ByteArray} {N : Nat} {W : World} {b n : Nat} {z : Value} {F : Nat → Value} {S : Nat → Bool} (o : Obj), MapIs kf N W b n z F S → MapIs kf N (W.alloc o) b n z F S := fun o h => h.kept (World.grownBy_alloc _ o none) (by simp)
  refine ⟨⟨by omega, by omega, by omega, by omega, by omega⟩, ?_, World.ownsRow_nil _ _ 43 10, ?_, ?_, ?_, ?_, fun p _ => World.ownsRow_nil _ _ 3 1, fun p _ => World.ownsRow_nil _ _ 3 1, ?_, by omega⟩
  · have := World.alloc_heap_new ((((w.alloc (.map #[] 0)).alloc (.map #[] 0)).alloc (.map #[] 0)).alloc (.map #[] 0)) (.cells #[.slice none (0 : Nat) 0, .map (some w.heap.size), .slice none (0 : Nat) 0, .map (some (w.heap.size + 1)), .map (some (w.heap.size + 2)), .map (some (w.heap.size + 3)), .bool false] 74)
    rw [e4] at this
    exact this
  · exact ka _ (ka _ (ka _ (ka _ (hm _ _ _ w))))
  · refine ⟨fun _ => .int .i64 0, ?_⟩
    have := ka (.cells #[.slice none (0 : Nat) 0, .map (some w.heap.size), .slice none (0 : Nat) 0, .map (some (w.heap.size + 1)), .map (some (w.heap.size + 2)), .map (some (w.heap.size + 3)), .bool false] 74) (ka (.map #[] 0) (ka (.map #[] 0) (hm idOf 32 (.int .i64 0) (w.alloc (.map #[] 0)))))
    rw [e1] at this
    simpa using this
  · refine ⟨0, fun _ => false, Nat.le_refl _, ?_⟩
    have := ka (.cells #[.slice none (0 : Nat) 0, .map (some w.heap.size), .slice none (0 : Nat) 0, .map (some (w.heap.size + 1)), .map (some (w.heap.size + 2)), .map (some (w.heap.size + 3)), .bool false] 74) (ka (.map #[] 0) (hm nameOf 7 (.slice none (0 : Nat) 0) ((w.alloc (.map #[] 0)).alloc (.map #[] 0))))
    rw [e2] at this
    exact this
  · refine ⟨0, fun _ => false, Nat.le_refl _, ?_⟩
    have := ka (.cells #[.slice none (0 : Nat) 0, .map (some w.heap.size), .slice none (0 : Nat) 0, .map (some (w.heap.size + 1)), .map (some (w.heap.size + 2)), .map (some (w.heap.size + 3)), .bool false] 74) (hm nameOf 7 (.slice none (0 : Nat) 0) (((w.alloc (.map #[] 0)).alloc (.map #[] 0)).alloc (.map #[] 0)))
    rw [e3] at this
    exact this
  · intro i j g _ _ hi _
    unfold ownOf at hi
    split at hi <;> simp [Value.ownBlock] at hi

theorem fromIdx_snoc (L : List Rel) (x : Rel) (p : Nat) : fromIdx (L ++ [x]) p = fromIdx L p ++ (if x.fr == p then [L.length] else []) := by
  unfold fromIdx
  rw [List.length_append, List.length_singleton, List.range_succ, List.filter_append]
  congr 1
  · refine List.filter_congr fun i hi => ?_
    have := List.mem_range.1 hi
    simp [List.getD, List.getElem?_append, this]
  · by_cases e : x.fr = p <;> simp [List.getD, e]

theorem toIdx_snoc (L : List Rel) (x : Rel) (p : Nat) : toIdx (L ++ [x]) p = toIdx L p ++ (if x.to == p then [L.length] else []) := by
  unfold toIdx
  rw [List.length_append, List.length_singleton, List.range_succ, List.filter_append]
  congr 1
  · refine List.filter_congr fun i hi => ?_
    have := List.mem_range.1 hi
    simp [List.getD, List.getElem?_append, this]
  · by_cases e : x.to = p <;> simp [List.getD, e]

theorem idOf_inj : ∀ p q, p < 32 → q < 32 → idOf p = idOf q → p = q := by
  intro p q hp hq h
  unfold idOf at h
  simp only [ByteArray.mk.injEq, Array.mk.injEq, List.cons.injEq, and_true, true_and] at h
  have h1 := congrArg UInt8.toNat h.1
  have h2 := congrArg UInt8.toNat h.2
  simp only [UInt8.toNat_ofNat'] at h1 h2
  omega

theorem idOf_size (p : Nat) : (idOf p).size ≤ maxLen := by
  unfold maxLen
  have : (idOf p).size = 3 := rfl
  omega

variable {B : Nat} {W : World} {rb b1 b3 b4 b5 : Nat} {v2 : Value} {F4 F5 : Nat → Value} {L2 : List Rel} {n3 : Nat} {L4 L5 : List Rel}

theorem relRow_snoc (L : List Rel) (x : Rel) : (flat (L ++ [x]).length fun i => relCells i ((L ++ [x]).getD i r0)) = (flat L.length fun i => relCells i (L.getD i r0)) ++ relCells L.length x := by
  rw [List.length_append, List.length_singleton, flat_succ]
  congr 1
  · refine flat_congr fun i hi => ?_
    simp [List.getD, List.getElem?_append, hi]
  · simp [List.getD]

/-- The maps' blocks are none of the rows'. -/
theorem RegS.maps (h : RegS B W rb b1 b3 b4 b5 v2 F4 F5 L2 n3 L4 L5) {i g : Nat} (hi : i < 15) (hg : ownOf v2 F4 F5 i = some g) : g ≠ rb ∧ g ≠ b1 ∧ g ≠ b3 ∧ g ≠ b4 ∧ g ≠ b5 := by
  obtain ⟨_, c, e, hc, he⟩ := h.obj hi hg
  have hmap : ∀ {kf : Nat → ByteArray} {N b n : Nat} {z : Value} {F : Nat → Value} {S : Nat → Bool}, MapIs kf N W b n z F S → g ≠ b := by
    intro kf N b n z F S hm e'
    subst e'
    obtain ⟨es, cl, hb⟩ := mapIs_obj hm
    rw [hb] at hc
    cases hc
  obtain ⟨F3, h3⟩ := h.m3
  obtain ⟨_, _, _, h4⟩ := h.m4
  obtain ⟨_, _, _, h5⟩ := h.m5
  refine ⟨?_, hmap h.m1, hmap h3, hmap h4, hmap h5⟩
  intro e'
  subst e'
  rw [h.reg] at hc
  cases hc
  exact he rfl

theorem RegS.rbm (h : RegS B W rb b1 b3 b4 b5 v2 F4 F5 L2 n3 L4 L5) : rb ≠ b1 ∧ rb ≠ b3 ∧ rb ≠ b4 ∧ rb ≠ b5 := by
  have hmap : ∀ {kf : Nat → ByteArray} {N b n : Nat} {z : Value} {F : Nat → Value} {S : Nat → Bool}, MapIs kf N W b n z F S → rb ≠ b := by
    intro kf N b n z F S hm e'
    subst e'
    obtain ⟨es, cl, hb⟩ := mapIs_obj hm
    have := h.reg
    rw [hb] at this
    cases this
  obtain ⟨F3, h3⟩ := h.m3
  obtain ⟨_, _, _, h4⟩ := h.m4
  obtain ⟨_, _, _, h5⟩ := h.m5
  exact ⟨hmap h.m1, hmap h3, hmap h4, hmap h5⟩

/-- The relation is appended, and the field stored. -/
theorem RegS.add2 {W1 W2 : World} {g cap : Nat} {x : Rel} {o : Obj} (h : RegS B W rb b1 b3 b4 b5 v2 F4 F5 L2 n3 L4 L5) (hW1 : W1 = W.alloc o)
    (hown : W2.ownsRow B 43 10 (.slice (some ⟨g, 0, none⟩) (L2.length + 1) cap) (L2.length + 1) ((flat L2.length fun i => relCells i (L2.getD i r0)) ++ relCells L2.length x)) (hg : W1.grownBy W2 v2.ownBlock) (hat : v2.ownBlock = some g ∨ g = W1.heap.size) :
    RegS B (W2.setCell ⟨rb, 2, none⟩ (.slice (some ⟨g, 0, none⟩) (L2.length + 1) cap)) rb b1 b3 b4 b5 (.slice (some ⟨g, 0, none⟩) (L2.length + 1) cap) F4 F5 (L2 ++ [x]) n3 L4 L5 := by
  have h1 : RegS B W1 rb b1 b3 b4 b5 v2 F4 F5 L2 n3 L4 L5 := by rw [hW1]; exact h.alloc o
  have hrb := (Array.getElem?_eq_some_iff.1 h1.reg).1
  have hn0 : ∀ b, (∀ g', v2.ownBlock = some g' → g' ≠ b) → some b ≠ v2.ownBlock := fun b hb e => hb b e.symm rfl
  have hv2 : ∀ g', v2.ownBlock = some g' → g' ≠ rb ∧ g' ≠ b1 ∧ g' ≠ b3 ∧ g' ≠ b4 ∧ g' ≠ b5 := fun g' e => h1.maps (i := 0) (by decide) e
  have hnew : g ≠ rb := by
    rcases hat with e | e
    · exact (hv2 g e).1
    · omega
  have hset : ∀ b, b ≠ rb → (W2.setCell ⟨rb, 2, none⟩ (.slice (some ⟨g, 0, none⟩) (L2.length + 1) cap)).heap[b]? = W2.heap[b]? := fun b hb => Below.heap_setCell W2 ⟨rb, 2, none⟩ _ b hb
  have hsame : ∀ b, b < W1.heap.size → b ≠ rb → (∀ g', v2.ownBlock = some g' → g' ≠ b) → (W2.setCell ⟨rb, 2, none⟩ (.slice (some ⟨g, 0, none⟩) (L2.length + 1) cap)).heap[b]? = W1.heap[b]? := fun b hb hr hv => (hset b hr).trans (hg.block b hb (hn0 b hv))
  obtain ⟨r1, r3, r4, r5⟩ := h1.rbm
  have hreg2 : W2.heap[rb]? = some (.cells #[.slice none (0 : Nat) 0, .map (some b1), v2, .map (some b3), .map (some b4), .map (some b5), .bool false] 74 (0, 0)) := (hg.block rb hrb (hn0 rb fun g' e => (hv2 g' e).1)).trans h1.reg
  have hown4 : ∀ k, 0 < k → k < 15 → ∀ g', ownOf v2 F4 F5 k = some g' → ∀ g'', v2.ownBlock = some g'' → g'' ≠ g' := fun k hk hk15 g' e g'' e' e'' => by
    subst e''
    have := h1.sep 0 k g'' (by decide) hk15 e' e
    omega
  refine ⟨h1.lo, ?_, ?_, h1.m1.heap (hsame _ h1.m1.lt r1.symm fun g' e => (hv2 g' e).2.1), ?_, ?_, ?_, ?_, ?_, ?_, h1.m45⟩
  · obtain ⟨hlt, hk⟩ := Array.getElem?_eq_some_iff.1 hreg2
    show (W2.heap.modify rb _)[rb]? = _
    rw [Array.getElem?_eq_getElem (by rw [Array.size_modify]; exact hlt), Array.getElem_modify_self, hk]
    rfl
  · rw [relRow_snoc, List.length_append]
    exact owns_heap hown (fun g' e => hset g' (by have : g = g' := by simpa [Value.ownBlock] using e
                                                  omega))
  · obtain ⟨F3, hm⟩ := h1.m3
    exact ⟨F3, hm.heap (hsame _ hm.lt r3.symm fun g' e => (hv2 g' e).2.2.1)⟩
  · obtain ⟨n4, S4, hn, hm⟩ := h1.m4
    exact ⟨n4, S4, hn, hm.heap (hsame _ hm.lt r4.symm fun g' e => (hv2 g' e).2.2.2.1)⟩
  · obtain ⟨n5, S5, hn, hm⟩ := h1.m5
    exact ⟨n5, S5, hn, hm.heap (hsame _ hm.lt r5.symm fun g' e => (hv2 g' e).2.2.2.2)⟩
  · intro p hp
    have e1 : ownOf v2 F4 F5 (p + 1) = (F4 p).ownBlock := by unfold ownOf; rw [if_neg (by omega), if_pos (by omega)]; rfl
    exact owns_heap (h1.o4 p hp) (fun g' e => hsame g' ((h1.o4 p hp).lt g' e).2 (h1.maps (i := p + 1) (by omega) (e1.trans e)).1 (hown4 (p + 1) (by omega) (by omega) g' (e1.trans e)))
  · intro p hp
    have e1 : ownOf v2 F4 F5 (p + 8) = (F5 p).ownBlock := by unfold ownOf; rw [if_neg (by omega), if_neg (by omega)]; rfl
    exact owns_heap (h1.o5 p hp) (fun g' e => hsame g' ((h1.o5 p hp).lt g' e).2 (h1.maps (i := p + 8) (by omega) (e1.trans e)).1 (hown4 (p + 8) (by omega) (by omega) g' (e1.trans e)))
  · intro i j g' hi hj ei ej
    have hk : ∀ k, k ≠ 0 → ownOf (.slice (some ⟨g, 0, none⟩) (L2.length + 1) cap) F4 F5 k = ownOf v2 F4 F5 k := fun k hk => by unfold ownOf; rw [if_neg hk, if_neg hk]
    have h0 : ∀ g', ownOf (.slice (some ⟨g, 0, none⟩) (L2.length + 1) cap) F4 F5 0 = some g' → g = g' := fun g' e => by simpa [ownOf, Value.ownBlock] using e
    have hcross : ∀ k, k ≠ 0 → k < 15 → ownOf v2 F4 F5 k = some g' → g = g' → False := by
      intro k hk0 hk15 e eg
      subst eg
      rcases hat with e' | e'
      · have := h1.sep 0 k g (by decide) hk15 e' e
        omega
      · obtain ⟨_, c, e2, hc, _⟩ := h1.obj hk15 e
        have := (Array.getElem?_eq_some_iff.1 hc).1
        omega
    by_cases i0 : i = 0
    · by_cases j0 : j = 0
      · omega
      · subst i0
        rw [hk j j0] at ej
        exact (hcross j j0 hj ej (h0 g' ei)).elim
    · by_cases j0 : j = 0
      · subst j0
        rw [hk i i0] at ei
        exact (hcross i i0 hi ei (h0 g' ej)).elim
      · rw [hk i i0] at ei
        rw [hk j j0] at ej
        exact h1.sep i j g' hi hj ei ej
end Go.Proofs.YbulkcfwsFmt
