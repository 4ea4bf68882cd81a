import Derived.Test.YbulkcfwsFmtRel
namespace Go.Proofs.YbulkcfwsFmt
open Go.RowKit

theorem info43 : (Ybaf.prog.info? 43).map (fun i => (i.zero, i.size, i.bytes)) = some (some (Value.agg #[.string ⟨#[]⟩, .string ⟨#[]⟩, .string ⟨#[]⟩, .string ⟨#[]⟩, .int .i32 0, .int .i32 0, .string ⟨#[]⟩, .int .i64 0, .pointer none, .string ⟨#[]⟩]), 10, 120) := by kernel_rfl
theorem info3 : (Ybaf.prog.info? 3).map (fun i => (i.zero, i.size, i.bytes)) = some (some (Value.int .i64 0), 1, 8) := by kernel_rfl

/-- The number of the own block: 0 the relations', 1 + p the row from party p, 8 + p the row to it. -/
def ownOf (v2 : Value) (F4 F5 : Nat → Value) (k : Nat) : Option Nat := if k = 0 then v2.ownBlock else if k < 8 then (F4 (k - 1)).ownBlock else (F5 (k - 8)).ownBlock

def intsV (xs : List Nat) : List Value := (ofNats xs).map (.int .i64)

/-- A register that may be written: the relations L2, the ids up to n3, the rows from L4, to L5. -/
structure RegS (B : Nat) (W : World) (rb b1 b3 b4 b5 : Nat) (v2 : Value) (F4 F5 : Nat → Value) (L2 : List Rel) (n3 : Nat) (L4 L5 : List Rel) : Prop where
  lo : B ≤ rb ∧ B ≤ b1 ∧ B ≤ b3 ∧ B ≤ b4 ∧ B ≤ b5
  reg : W.heap[rb]? = some (.cells #[.slice none (0 : Nat) 0, .map (some b1), v2, .map (some b3), .map (some b4), .map (some b5), .bool false] 74 (0, 0))
  own2 : W.ownsRow B 43 10 v2 L2.length (flat L2.length fun i => relCells i (L2.getD i r0))
  m1 : MapIs nameOf 7 W b1 0 (.int .i64 0) (fun _ => .int .i64 0) (fun _ => false)
  m3 : ∃ F3, MapIs idOf 32 W b3 n3 (.int .i64 0) F3 (fun i => decide (i < n3))
  m4 : ∃ n4 S4, n4 ≤ L4.length ∧ MapIs nameOf 7 W b4 n4 (.slice none (0 : Nat) 0) F4 S4
  m5 : ∃ n5 S5, n5 ≤ L5.length ∧ MapIs nameOf 7 W b5 n5 (.slice none (0 : Nat) 0) F5 S5
  o4 : ∀ p, p < 7 → W.ownsRow B 3 1 (F4 p) (fromIdx L4 p).length (intsV (fromIdx L4 p))
  o5 : ∀ p, p < 7 → W.ownsRow B 3 1 (F5 p) (toIdx L5 p).length (intsV (toIdx L5 p))
  sep : ∀ i j g, i < 15 → j < 15 → ownOf v2 F4 F5 i = some g → ownOf v2 F4 F5 j = some g → i = j
  m45 : b3 ≠ b4 ∧ b3 ≠ b5 ∧ b4 ≠ b5 ∧ b1 ≠ b3 ∧ b1 ≠ b4 ∧ b1 ≠ b5

variable {B : Nat} {W : World} {rb b1 b3 b4 b5 : Nat} {v2 : Value} {F4 F5 : Nat → Value} {L2 : List Rel} {n3 : Nat} {L4 L5 : List Rel}

theorem owns_obj {w : World} {B : Nat} {e : TypeId} {m : Nat} {v : Value} {n : Nat} {cs : List Value} (h : w.ownsRow B e m v n cs) {g : Nat} (hg : v.ownBlock = some g) : B ≤ g ∧ ∃ c, w.heap[g]? = some (.cells c e (0, 0)) := by
  obtain ⟨_, h⟩ := h
  rcases h with ⟨rfl, _⟩ | ⟨g', cap, cur, rfl, hb, hg', _⟩
  · simp [Value.ownBlock] at hg
  · have e' : g' = g := by simpa [Value.ownBlock] using hg
    subst e'
    exact ⟨hb, cur, hg'⟩

/-- Every own block is a row. -/
theorem RegS.obj (h : RegS B W rb b1 b3 b4 b5 v2 F4 F5 L2 n3 L4 L5) {i g : Nat} (hi : i < 15) (hg : ownOf v2 F4 F5 i = some g) : B ≤ g ∧ ∃ c e, W.heap[g]? = some (.cells c e (0, 0)) ∧ e ≠ 74 := by
  unfold ownOf at hg
  split at hg
  · obtain ⟨h1, c, h2⟩ := owns_obj h.own2 hg
    exact ⟨h1, c, 43, h2, by decide⟩
  · split at hg
    · obtain ⟨h1, c, h2⟩ := owns_obj (h.o4 (i - 1) (by omega)) hg
      exact ⟨h1, c, 3, h2, by decide⟩
    · obtain ⟨h1, c, h2⟩ := owns_obj (h.o5 (i - 8) (by omega)) hg
      exact ⟨h1, c, 3, h2, by decide⟩

/-- A step that turns none of the register's blocks. -/
theorem RegS.far {W' : World} {row : Option Nat} (h : RegS B W rb b1 b3 b4 b5 v2 F4 F5 L2 n3 L4 L5) (hg : W.grownBy W' row) (hr : ∀ r, row = some r → W.heap.size ≤ r) : RegS B W' rb b1 b3 b4 b5 v2 F4 F5 L2 n3 L4 L5 := by
  have hne : ∀ b, b < W.heap.size → some b ≠ row := fun b hb e => by have := hr b e.symm; omega
  have hsame : ∀ b, b < W.heap.size → W'.heap[b]? = W.heap[b]? := fun b hb => hg.block b hb (hne b hb)
  refine ⟨h.lo, (hsame rb (Array.getElem?_eq_some_iff.1 h.reg).1).trans h.reg, owns_heap h.own2 (fun g hg' => hsame g (h.own2.lt g hg').2), h.m1.heap (hsame _ h.m1.lt), ?_, ?_, ?_, fun p hp => owns_heap (h.o4 p hp) (fun g hg' => hsame g ((h.o4 p hp).lt g hg').2), fun p hp => owns_heap (h.o5 p hp) (fun g hg' => hsame g ((h.o5 p hp).lt g hg').2), h.sep, h.m45⟩
  · obtain ⟨F3, hm⟩ := h.m3
    exact ⟨F3, hm.heap (hsame _ hm.lt)⟩
  · obtain ⟨n4, S4, hn, hm⟩ := h.m4
    exact ⟨n4, S4, hn, hm.heap (hsame _ hm.lt)⟩
  · obtain ⟨n5, S5, hn, hm⟩ := h.m5
    exact ⟨n5, S5, hn, hm.heap (hsame _ hm.lt)⟩

theorem RegS.alloc (h : RegS B W rb b1 b3 b4 b5 v2 F4 F5 L2 n3 L4 L5) (o : Obj) : RegS B (W.alloc o) rb b1 b3 b4 b5 v2 F4 F5 L2 n3 L4 L5 := h.far (World.grownBy_alloc W o none) (fun r e => by cases e)

theorem RegS.drew (h : RegS B W rb b1 b3 b4 b5 v2 F4 F5 L2 n3 L4 L5) : RegS B W.drew rb b1 b3 b4 b5 v2 F4 F5 L2 n3 L4 L5 := h.far ⟨rfl, rfl, rfl, Nat.le_refl _, fun _ _ _ => rfl⟩ (fun r (e : none = some r) => by cases e)

theorem RegS.below {W' : World} (h : RegS B W rb b1 b3 b4 b5 v2 F4 F5 L2 n3 L4 L5) (hb : Below W.heap.size W W') : RegS B W' rb b1 b3 b4 b5 v2 F4 F5 L2 n3 L4 L5 := h.far (grown_of_below hb) (fun r e => by cases e)

theorem RegS.cells (h : RegS B W rb b1 b3 b4 b5 v2 F4 F5 L2 n3 L4 L5) : rb < W.heap.size ∧ W.cell? ⟨rb, 0, none⟩ = some (.slice none (0 : Nat) 0) ∧ W.cell? ⟨rb, 1, none⟩ = some (.map (some b1)) ∧ W.cell? ⟨rb, 2, none⟩ = some v2 ∧ W.cell? ⟨rb, 3, none⟩ = some (.map (some b3)) ∧ W.cell? ⟨rb, 4, none⟩ = some (.map (some b4)) ∧ W.cell? ⟨rb, 5, none⟩ = some (.map (some b5)) ∧ W.cell? ⟨rb, 6, none⟩ = some (.bool false) ∧ W.frozen? ⟨rb, 2, none⟩ = false := by
  have := h.reg
  refine ⟨(Array.getElem?_eq_some_iff.1 this).1, ?_⟩
  simp [World.cell?, World.frozen?, this]

/-- What the register is for its readers. -/
theorem RegS.toReg {L : List Rel} (h : RegS B W rb b1 b3 b4 b5 v2 F4 F5 L n3 L L) (hl : L.length ≤ 32) (hg : ∀ i, i < L.length → (L.getD i r0).ok) : Reg AnyB W rb L := by
  obtain ⟨h0, h1, h2, h3, h4, h5, h6, h7, _⟩ := h.cells
  have hints : ∀ (v : Value) (xs : List Nat), W.ownsRow B 3 1 v xs.length (intsV xs) → Ints AnyB W v (ofNats xs) := by
    intro v xs ho
    have := (row_of_owns ho).any
    show Row ..
    have e : (ofNats xs).length = xs.length := by simp [ofNats]
    rw [e]
    exact this
  refine ⟨trivial, h0, hl, hg, h1, ⟨b1, 0, h2, trivial, h.m1⟩, ⟨v2, h3, (row_of_owns h.own2).any⟩, ?_, ?_⟩
  · obtain ⟨n4, S4, _, hm⟩ := h.m4
    exact ⟨b4, n4, F4, S4, h5, trivial, hm, fun p hp => hints _ _ (h.o4 p hp)⟩
  · obtain ⟨n5, S5, _, hm⟩ := h.m5
    exact ⟨b5, n5, F5, S5, h6, trivial, hm, fun p hp => hints _ _ (h.o5 p hp)⟩
end Go.Proofs.YbulkcfwsFmt
