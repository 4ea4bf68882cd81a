import Derived.Test.YbulkcfwsFmtRelate
import Derived.Test.YbulkcfwsFmtPlain
import Derived.Deep.OwnRows
namespace Go.Proofs.YbulkcfwsFmt
open Go.RowKit

theorem info4 : (Ybaf.prog.info? 4).map (fun i => (i.zero, i.size, i.bytes)) = some (some (Value.bool false), 1, 1) := by kernel_rfl

theorem flat_len1 (n : Nat) (f : Nat → Value) : (flat n fun i => [f i]).length = n * 1 := by
  unfold flat
  induction n with
  | zero => rfl
  | succ n ih => rw [List.range_succ, List.flatMap_append, List.length_append, ih]; simp

/-- A whole row, as a slice's cells. -/
theorem row_of_is {W : World} {b t n : Nat} {f : Nat → Value} (h : W.rowIs b t n f) : Row AnyB W (.slice (some ⟨b, 0, none⟩) n n) n 1 (flat n fun i => [f i]) := by
  refine ⟨?_, _, n, rfl, Nat.le_refl _, .inr ⟨b, 0, rfl, trivial, h.lt, fun j u hj => ?_⟩⟩
  · exact flat_len1 n f
  · have hjn : j < n := by
      have := (List.getElem?_eq_some_iff.1 hj).1
      rw [flat_len1, Nat.mul_one] at this
      exact this
    rw [flat1 hjn] at hj
    rw [Nat.zero_add, h.cell hjn]
    exact hj

/-- Block a is none of the register's. -/
def Free (a rb b1 b3 b4 b5 : Nat) (v2 : Value) (F4 F5 : Nat → Value) : Prop := a ≠ rb ∧ a ≠ b1 ∧ a ≠ b3 ∧ a ≠ b4 ∧ a ≠ b5 ∧ ∀ i g, i < 15 → ownOf v2 F4 F5 i = some g → g ≠ a

variable {B : Nat} {W W' : World} {rb b1 b3 b4 b5 : Nat} {v2 : Value} {F4 F5 : Nat → Value} {L2 : List Rel} {n3 : Nat} {L4 L5 : List Rel}

/-- A store into a block that is none of the register's. -/
theorem RegS.other {a : Nat} (h : RegS B W rb b1 b3 b4 b5 v2 F4 F5 L2 n3 L4 L5) (hf : Free a rb b1 b3 b4 b5 v2 F4 F5) (j : Nat) (u : Value) : RegS B (W.setCell ⟨a, j, none⟩ u) rb b1 b3 b4 b5 v2 F4 F5 L2 n3 L4 L5 := by
  obtain ⟨f1, f2, f3, f4, f5, f6⟩ := hf
  have hsame : ∀ b, b ≠ a → (W.setCell ⟨a, j, none⟩ u).heap[b]? = W.heap[b]? := fun b hb => Below.heap_setCell W ⟨a, j, none⟩ u b hb
  refine ⟨h.lo, (hsame rb (by omega)).trans h.reg, owns_heap h.own2 (fun g e => hsame g (f6 0 g (by decide) e)), h.m1.heap (hsame _ (by omega)), ?_, ?_, ?_, fun p hp => owns_heap (h.o4 p hp) (fun g e => hsame g (f6 (p + 1) g (by omega) ((ownOf4 v2 F4 F5 p hp).trans e))), fun p hp => owns_heap (h.o5 p hp) (fun g e => hsame g (f6 (p + 8) g (by omega) ((ownOf5 v2 F4 F5 p hp).trans e))), h.sep, h.m45⟩
  · obtain ⟨F3, hm⟩ := h.m3
    exact ⟨F3, hm.heap (hsame _ (by omega))⟩
  · obtain ⟨n4, S4, hn, hm⟩ := h.m4
    exact ⟨n4, S4, hn, hm.heap (hsame _ (by omega))⟩
  · obtain ⟨n5, S5, hn, hm⟩ := h.m5
    exact ⟨n5, S5, hn, hm.heap (hsame _ (by omega))⟩

/-- A block that is not yet there is free. -/
theorem RegS.freeNew (h : RegS B W rb b1 b3 b4 b5 v2 F4 F5 L2 n3 L4 L5) {a : Nat} (ha : W.heap.size ≤ a) : Free a rb b1 b3 b4 b5 v2 F4 F5 := by
  have h1 := (Array.getElem?_eq_some_iff.1 h.reg).1
  have h2 := h.m1.lt
  obtain ⟨_, hm3⟩ := h.m3
  have h3 := hm3.lt
  obtain ⟨_, _, _, hm4⟩ := h.m4
  have h4 := hm4.lt
  obtain ⟨_, _, _, hm5⟩ := h.m5
  have h5 := hm5.lt
  refine ⟨by omega, by omega, by omega, by omega, by omega, fun i g hi e => ?_⟩
  obtain ⟨_, c, e', hc, _⟩ := h.obj hi e
  have := (Array.getElem?_eq_some_iff.1 hc).1
  omega

/-- What the seven arrays hold when the relations L are in them. -/
def arrV (L : List Rel) (d : Int) (j k : Nat) : Value :=
  match j with
  | 0 => .int .i64 ((L.getD k r0).ty : Nat)
  | 1 => .int .i64 ((L.getD k r0).fr : Nat)
  | 2 => .int .i64 ((L.getD k r0).to : Nat)
  | 3 => .int .i64 ((L.getD k r0).ro : Nat)
  | 4 => .int .i64 ((L.getD k r0).ti : Nat)
  | 5 => .bool (decide (k < L.length) && (L.getD k r0).on d)
  | _ => .bool (ctlB L d k)

def arrT (j : Nat) : TypeId := if j < 5 then 3 else 4

/-- The law's world while the relations are recorded: L are in the register, f is in the arrays. -/
structure LA (w0 : World) (rb b1 b3 b4 b5 A n : Nat) (v2 : Value) (F4 F5 : Nat → Value) (L : List Rel) (f : Nat → Nat → Value) (W : World) : Prop where
  reg : RegS w0.heap.size W rb b1 b3 b4 b5 v2 F4 F5 L L.length L L
  arr : ∀ j, j < 7 → W.rowIs (A + j) (arrT j) n (f j)
  free : ∀ j, j < 7 → Free (A + j) rb b1 b3 b4 b5 v2 F4 F5
  bel : Below w0.heap.size w0 W
  lo : w0.heap.size ≤ A

variable {w0 : World} {A n : Nat} {L : List Rel} {f g : Nat → Nat → Value}

theorem LA.below (h : LA w0 rb b1 b3 b4 b5 A n v2 F4 F5 L f W) (hb : Below W.heap.size W W') : LA w0 rb b1 b3 b4 b5 A n v2 F4 F5 L f W' :=
  ⟨h.reg.below hb, fun j hj => (h.arr j hj).of_block (hb.block _ (h.arr j hj).lt), h.free, h.bel.trans (hb.mono h.bel.size), h.lo⟩

theorem LA.alloc (h : LA w0 rb b1 b3 b4 b5 A n v2 F4 F5 L f W) (o : Obj) : LA w0 rb b1 b3 b4 b5 A n v2 F4 F5 L f (W.alloc o) := h.below ((Below.refl _ _).alloc (Nat.le_refl _) o)
theorem LA.drew (h : LA w0 rb b1 b3 b4 b5 A n v2 F4 F5 L f W) : LA w0 rb b1 b3 b4 b5 A n v2 F4 F5 L f W.drew := h.below (Below.refl _ _).drew

theorem LA.congr (h : LA w0 rb b1 b3 b4 b5 A n v2 F4 F5 L f W) (e : ∀ j k, j < 7 → k < n → f j k = g j k) : LA w0 rb b1 b3 b4 b5 A n v2 F4 F5 L g W :=
  ⟨h.reg, fun j hj => (h.arr j hj).congr (fun k hk => e j k hj hk), h.free, h.bel, h.lo⟩

/-- A store into array j. -/
theorem LA.set (h : LA w0 rb b1 b3 b4 b5 A n v2 F4 F5 L f W) (j : Nat) (hj : j < 7) (i : Nat) (u : Value) : LA w0 rb b1 b3 b4 b5 A n v2 F4 F5 L (fun j' k => if j' = j then (if k = i then u else f j' k) else f j' k) (W.setCell ⟨A + j, i, none⟩ u) := by
  refine ⟨h.reg.other (h.free j hj) i u, fun j' hj' => ?_, h.free, h.bel.setCell (by have := h.lo; show w0.heap.size ≤ A + j; omega) u, h.lo⟩
  by_cases e : j' = j
  · subst e
    simp only [if_true]
    exact (h.arr j' hj').set i u
  · simp only [if_neg e]
    exact (h.arr j' hj').setOther (by show A + j' ≠ A + j; omega) u

/-- A store into a block that is made later. -/
theorem LA.far (h : LA w0 rb b1 b3 b4 b5 A n v2 F4 F5 L f W) {b : Nat} (hf : Free b rb b1 b3 b4 b5 v2 F4 F5) (hA : A + 7 ≤ b) (i : Nat) (u : Value) : LA w0 rb b1 b3 b4 b5 A n v2 F4 F5 L f (W.setCell ⟨b, i, none⟩ u) := by
  refine ⟨h.reg.other hf i u, fun j' hj' => (h.arr j' hj').setOther (by show A + j' ≠ b; omega) u, h.free, h.bel.setCell (by have := h.lo; show w0.heap.size ≤ b; omega) u, h.lo⟩

/-- The seven arrays with one relation more. -/
theorem arrV_snoc (L : List Rel) (x : Rel) (d : Int) (j k : Nat) (hj : j < 7) :
    (if j = 6 then (if k = L.length then .bool (x.ty == 1 && x.on d) else arrV L d j k) else if j = 5 then (if k = L.length then .bool (x.on d) else arrV L d j k) else if j = 4 then (if k = L.length then .int .i64 (x.ti : Nat) else arrV L d j k) else if j = 3 then (if k = L.length then .int .i64 (x.ro : Nat) else arrV L d j k) else if j = 2 then (if k = L.length then .int .i64 (x.to : Nat) else arrV L d j k) else if j = 1 then (if k = L.length then .int .i64 (x.fr : Nat) else arrV L d j k) else (if k = L.length then .int .i64 (x.ty : Nat) else arrV L d j k)) = arrV (L ++ [x]) d j k := by
  have hk : (L ++ [x]).getD k r0 = if k = L.length then x else L.getD k r0 := by
    by_cases e : k = L.length
    · subst e; simp [List.getD]
    · rw [if_neg e]
      by_cases h : k < L.length
      · simp [List.getD, List.getElem?_append_left h]
      · simp [List.getD, List.getElem?_append_right (Nat.le_of_not_lt h), List.getElem?_eq_none (Nat.le_of_not_lt h), show k - L.length ≠ 0 by omega]
  have hlt : decide (k < (L ++ [x]).length) = if k = L.length then true else decide (k < L.length) := by
    rw [List.length_append, List.length_singleton]
    by_cases e : k = L.length
    · simp [e]
    · rw [if_neg e]
      exact decide_eq_decide.2 (by omega)
  rcases lt7 hj with rfl | rfl | rfl | rfl | rfl | rfl | rfl <;> simp only [arrV, ctlB, hk, hlt, Nat.reduceEqDiff, if_false, if_true] <;> split <;> simp

end Go.Proofs.YbulkcfwsFmt
