import Derived.Test.YbulkcfwsFmtIter
import Derived.Test.YbulkcfwsFmtShelf
import Derived.RangeFuncBox
import Derived.ArgAppend
import Derived.Lib.AppendZeros
namespace Go.Proofs.YbulkcfwsFmt
open Go.RowKit Go.Shelf

def nbL (L : List Rel) (d : Int) (up : Bool) (a : Nat) : List Nat := (outs L d up a).map (·.2.val)

/-- Reached in n steps: no chain runs on through the company, unless it is c. -/
def RN (L : List Rel) (d : Int) (up : Bool) (c : Nat) : Nat → Nat → Prop
  | 0, q => q = c
  | k + 1, q => ∃ a, RN L d up c k a ∧ (a ≠ 0 ∨ a = c) ∧ q ∈ nbL L d up a
def Reach (L : List Rel) (d : Int) (up : Bool) (c q : Nat) : Prop := ∃ k, RN L d up c k q

def visit (T os : List Nat) : List Nat := os.foldl (fun T o => if o ∈ T then T else T ++ [o]) T

theorem visit_snoc (T os : List Nat) (o : Nat) : visit T (os ++ [o]) = if o ∈ visit T os then visit T os else visit T os ++ [o] := by
  unfold visit
  rw [List.foldl_append]
  rfl

theorem visit_pre (T os : List Nat) : ∃ E, visit T os = T ++ E := by
  induction os generalizing T with
  | nil => exact ⟨[], by simp [visit]⟩
  | cons o os ih =>
    show ∃ E, visit (if o ∈ T then T else T ++ [o]) os = T ++ E
    split
    · exact ih T
    · obtain ⟨E, hE⟩ := ih (T ++ [o])
      exact ⟨o :: E, by rw [hE]; simp⟩

theorem visit_mem (T os : List Nat) (q : Nat) : q ∈ visit T os ↔ q ∈ T ∨ q ∈ os := by
  induction os generalizing T with
  | nil => simp [visit]
  | cons o os ih =>
    show q ∈ visit (if o ∈ T then T else T ++ [o]) os ↔ _
    rw [ih]
    split
    · rename_i h
      constructor
      · rintro (h' | h')
        · exact .inl h'
        · exact .inr (List.mem_cons_of_mem _ h')
      · rintro (h' | h')
        · exact .inl h'
        · rcases List.mem_cons.1 h' with rfl | h'
          · exact .inl h
          · exact .inr h'
    · rw [List.mem_append, List.mem_singleton, List.mem_cons]
      constructor
      · rintro ((h' | h') | h')
        · exact .inl h'
        · exact .inr (.inl h')
        · exact .inr (.inr h')
      · rintro (h' | h' | h')
        · exact .inl (.inl h')
        · exact .inl (.inr h')
        · exact .inr h'

theorem visit_nodup (T os : List Nat) (h : T.Nodup) : (visit T os).Nodup := by
  induction os generalizing T with
  | nil => exact h
  | cons o os ih =>
    show (visit (if o ∈ T then T else T ++ [o]) os).Nodup
    refine ih _ ?_
    split
    · exact h
    · rename_i h'
      rw [List.nodup_append]
      exact ⟨h, by simp, fun a ha b hb e => h' (by rw [List.mem_singleton] at hb; rw [← hb, ← e]; exact ha)⟩

theorem nodup_len (n : Nat) (l : List Nat) (h : l.Nodup) (hl : ∀ x ∈ l, x < n) : l.length ≤ n := by
  induction n generalizing l with
  | zero =>
    cases l with
    | nil => simp
    | cons x l => exact absurd (hl x List.mem_cons_self) (by omega)
  | succ n ih =>
    have h1 := ih (l.erase n) (h.erase n) (fun x hx => by
      have := (h.mem_erase_iff).1 hx
      have := hl x this.2
      omega)
    rw [List.length_erase] at h1
    split at h1 <;> omega

/-- The plain side of the walk of control: T: the parties in the order of their coming, the first p done; n: their steps. -/
structure CP (L : List Rel) (d : Int) (up : Bool) (c : Nat) (T : List Nat) (p : Nat) (n : Nat → Nat) : Prop where
  nodup : T.Nodup
  lt : ∀ q ∈ T, q < 7
  hd : c ∈ T
  pl : p ≤ T.length
  zero : ∀ q ∈ T, (n q = 0 ↔ q = c)
  small : ∀ q ∈ T, n q ≤ T.length
  sound : ∀ q ∈ T, Reach L d up c q
  closed : ∀ i, i < p → (T.getD i 0 ≠ 0 ∨ T.getD i 0 = c) → ∀ o ∈ nbL L d up (T.getD i 0), o ∈ T

theorem CP.len {L : List Rel} {d : Int} {up : Bool} {c : Nat} {T : List Nat} {p : Nat} {n : Nat → Nat} (h : CP L d up c T p n) : T.length ≤ 7 := nodup_len 7 T h.nodup h.lt

theorem CP.start (L : List Rel) (d : Int) (up : Bool) (c : Nat) (hc : c < 7) : CP L d up c [c] 0 (fun _ => 0) := by
  refine ⟨by simp, ?_, by simp, by simp, ?_, ?_, ?_, fun i hi => by omega⟩
  · intro q hq; rw [List.mem_singleton] at hq; omega
  · intro q hq; rw [List.mem_singleton] at hq; simp [hq]
  · intro q hq; omega
  · intro q hq; rw [List.mem_singleton] at hq; subst hq; exact ⟨0, rfl⟩

theorem CP.skip {L : List Rel} {d : Int} {up : Bool} {c : Nat} {T : List Nat} {p : Nat} {n : Nat → Nat} (h : CP L d up c T p n) (hp : p < T.length) (hs : T.getD p 0 = 0 ∧ T.getD p 0 ≠ c) : CP L d up c T (p + 1) n := by
  refine ⟨h.nodup, h.lt, h.hd, hp, h.zero, h.small, h.sound, fun i hi hc => ?_⟩
  by_cases e : i < p
  · exact h.closed i e hc
  · obtain rfl : i = p := by omega
    rcases hc with h1 | h1
    · exact absurd hs.1 h1
    · exact absurd h1 hs.2

def nUp (T : List Nat) (n : Nat → Nat) (a : Nat) : Nat → Nat := fun q => if q ∈ T then n q else n a + 1

theorem nbL_lt (L : List Rel) (d : Int) (up : Bool) (a : Nat) : ∀ o ∈ nbL L d up a, o < 7 := by
  intro o ho
  obtain ⟨x, _, rfl⟩ := List.mem_map.1 ho
  exact x.2.isLt

theorem CP.next {L : List Rel} {d : Int} {up : Bool} {c : Nat} {T : List Nat} {p : Nat} {n : Nat → Nat} (h : CP L d up c T p n) (hp : p < T.length) (hs : T.getD p 0 ≠ 0 ∨ T.getD p 0 = c) :
    CP L d up c (visit T (nbL L d up (T.getD p 0))) (p + 1) (nUp T n (T.getD p 0)) := by
  obtain ⟨E, hE⟩ := visit_pre T (nbL L d up (T.getD p 0))
  have hm := visit_mem T (nbL L d up (T.getD p 0))
  have hnd := visit_nodup T (nbL L d up (T.getD p 0)) h.nodup
  have ha : T.getD p 0 ∈ T := by simp [List.getD, List.getElem?_eq_getElem hp]
  generalize hT' : visit T (nbL L d up (T.getD p 0)) = T' at *
  have hget : ∀ i, i < T.length → T'.getD i 0 = T.getD i 0 := fun i hi => by rw [hE]; simp [List.getD, List.getElem?_append, hi]
  have hl : T.length ≤ T'.length := by rw [hE]; simp
  refine ⟨hnd, ?_, (hm c).2 (.inl h.hd), by omega, ?_, ?_, ?_, ?_⟩
  · intro q hq
    rcases (hm q).1 hq with h1 | h1
    · exact h.lt q h1
    · exact nbL_lt _ _ _ _ q h1
  · intro q hq
    unfold nUp
    split
    · exact h.zero q (by assumption)
    · rename_i hnot
      constructor
      · intro e; omega
      · intro e; subst e; exact absurd h.hd hnot
  · intro q hq
    unfold nUp
    split
    · have := h.small q (by assumption)
      omega
    · rename_i hnot
      have h1 := h.small _ ha
      have h2 : T.length < T'.length := by
        rw [hE] at hq ⊢
        rcases List.mem_append.1 hq with h3 | h3
        · exact absurd h3 hnot
        · have := List.length_pos_of_mem h3
          simp
          omega
      omega
  · intro q hq
    rcases (hm q).1 hq with h1 | h1
    · exact h.sound q h1
    · obtain ⟨k, hk⟩ := h.sound _ ha
      exact ⟨k + 1, _, hk, hs, h1⟩
  · intro i hi hc o ho
    by_cases e : i < p
    · rw [hget i (by omega)] at hc ho
      exact (hm o).2 (.inl (h.closed i e hc o ho))
    · obtain rfl : i = p := by omega
      rw [hget i hp] at ho
      exact (hm o).2 (.inr ho)

theorem CP.done {L : List Rel} {d : Int} {up : Bool} {c : Nat} {T : List Nat} {n : Nat → Nat} (h : CP L d up c T T.length n) (q : Nat) : q ∈ T ↔ Reach L d up c q := by
  refine ⟨h.sound q, ?_⟩
  rintro ⟨k, hk⟩
  induction k generalizing q with
  | zero =>
    have : q = c := hk
    subst this
    exact h.hd
  | succ k ih =>
    obtain ⟨a, hka, hs, ho⟩ := hk
    have ha := ih a hka
    obtain ⟨i, hi, rfl⟩ := List.mem_iff_getElem.1 ha
    have e : T.getD i 0 = T[i] := by simp [List.getD, List.getElem?_eq_getElem hi]
    refine h.closed i hi ?_ q ?_
    · rw [e]; exact hs
    · rw [e]; exact ho

/-- The queue: names, with room behind them that is the call's own. -/
def Que (B : Nat) (W : World) (v : Value) (ps : List Nat) : Prop :=
  ∃ g off cap, v = .slice (some ⟨g, off, none⟩) ps.length cap ∧ ps.length ≤ cap ∧ B ≤ g ∧ g < W.heap.size ∧ (∀ j, j < ps.length → W.cell? ⟨g, off + j, none⟩ = some (.string (nameOf (ps.getD j 0)))) ∧
    ∀ j, j < cap → (W.cell? ⟨g, off + j, none⟩).isSome = true ∧ W.frozen? ⟨g, off + j, none⟩ = false

theorem Que.keep {B : Nat} {W W' : World} {v : Value} {ps : List Nat} (h : Que B W v ps) (hk : ∀ g, v.ownBlock = some g → g < W.heap.size → W'.heap[g]? = W.heap[g]?) (hs : W.heap.size ≤ W'.heap.size) : Que B W' v ps := by
  obtain ⟨g, off, cap, rfl, h1, h2, h3, h4, h5⟩ := h
  have e := hk g rfl h3
  refine ⟨g, off, cap, rfl, h1, h2, Nat.lt_of_lt_of_le h3 hs, fun j hj => ?_, fun j hj => ?_⟩
  · rw [cell_of_heap e]; exact h4 j hj
  · rw [cell_of_heap e, World.frozen?_of_block (w := W) (a := ⟨g, off + j, none⟩) e]; exact h5 j hj

theorem Que.lt {B : Nat} {W : World} {v : Value} {ps : List Nat} (h : Que B W v ps) {g : Nat} (hg : v.ownBlock = some g) : B ≤ g ∧ g < W.heap.size := by
  obtain ⟨g', off, cap, rfl, h1, h2, h3, h4, h5⟩ := h
  have : g' = g := by simpa [Value.ownBlock] using hg
  subst this
  exact ⟨h2, h3⟩

theorem que_of_owns {B : Nat} {W : World} {v : Value} {ps : List Nat} (h : W.ownsRow B 9 1 v ps.length (ps.map fun p => .string (nameOf p))) (hn : 0 < ps.length) : Que B W v ps := by
  have h' := h
  obtain ⟨hl, h⟩ := h
  rcases h with ⟨rfl, h0⟩ | ⟨g, cap, cur, rfl, hb, hg, h1, h2, h3, h4⟩
  · omega
  · refine ⟨g, 0, cap, rfl, h1, hb, (Array.getElem?_eq_some_iff.1 hg).1, fun j hj => ?_, fun j hj => ?_⟩
    · rw [Nat.zero_add, h'.cellAt j (by omega)]
      simp [hj, List.getD]
    · have hj' : j < cur.size := by omega
      constructor
      · simp [World.cell?, hg, hj']
      · simp [World.frozen?, hg]
end Go.Proofs.YbulkcfwsFmt
