import Derived.Test.YbulkcfwsFmtLawW
import Derived.Deep.CutBlock
import Derived.Deep.DeepCutAuto
namespace Go.Proofs.YbulkcfwsFmt
open Go.RowKit

/-- What is left of the code from the statement on that begins with region k. -/
def headId : Code → Option Nat
  | .region n _ _ => some n
  | .seq a _ => headId a
  | .block _ c => headId c
  | _ => none
def tailAt (k : Nat) : Code → Code
  | .seq a b => if headId a = some k then .seq a b else tailAt k b
  | c => c

/-- The block of that number. -/
def blockAt (k : Nat) : Code → Option Code
  | .block n c => if n = k then some (.block n c) else blockAt k c
  | .seq a b => (blockAt k a).orElse fun _ => blockAt k b
  | .loop c => blockAt k c
  | .cond _ a b => (blockAt k a).orElse fun _ => blockAt k b
  | _ => none

theorem curK_succ (L : List Rel) (d : Int) (s : Nat) (cur : Nat → Bool) (k : Nat) (x : Nat) :
    curK L d s cur (k + 1) x = (curK L d s cur k x || ((L.getD k r0).ty == 2 && (L.getD k r0).on d && ((cur (L.getD k r0).fr && isB (L.getD k r0).ti s false && x == (L.getD k r0).to) || (cur (L.getD k r0).to && isB (L.getD k r0).ti s true && x == (L.getD k r0).fr)))) := by
  simp [curK, List.range_succ, List.any_append]

theorem offKB_succ (L : List Rel) (d : Int) (c p k : Nat) : offKB L d c p (k + 1) = (offKB L d c p k || ((L.getD k r0).ty == 0 && (L.getD k r0).fr == p && (L.getD k r0).on d && aroundB L d c (L.getD k r0).to)) := by
  simp [offKB, List.range_succ, List.any_append]

theorem offKB_end {L : List Rel} {d : Int} {c p k : Nat} {b0 : Bool} (h : (b0 || offKB L d c p k) = true) (hk : k ≤ L.length) : (b0 || offKB L d c p L.length) = true := by
  rw [Bool.or_eq_true] at h
  rcases h with h | h
  · rw [h]; rfl
  · rw [Bool.or_eq_true]
    right
    unfold offKB at h ⊢
    rw [List.any_eq_true] at h ⊢
    obtain ⟨j, hj, h⟩ := h
    exact ⟨j, List.mem_range.2 (Nat.lt_of_lt_of_le (List.mem_range.1 hj) hk), h⟩

theorem kinKB_succ (L : List Rel) (d : Int) (c : Nat) (rs : List Nat) (k q : Nat) : kinKB L d c rs (k + 1) q = (kinKB L d c rs k q || (withB L d c (L.getD k r0).to && (L.getD k r0).on d && roleIn rs (L.getD k r0).ro && q == (L.getD k r0).fr)) := by
  simp [kinKB, List.range_succ, List.any_append, Bool.or_assoc]

theorem Arr.congr {W : World} {b : Nat} {f g : Nat → Bool} (h : Arr W b f) (e : ∀ q, q < 7 → f q = g q) : Arr W b g := ⟨h.lt, fun q hq => by rw [h.cell q hq, e q hq], h.frozen⟩

theorem Arr.of_block {W W' : World} {b : Nat} {f : Nat → Bool} (h : Arr W b f) (e : W'.heap[b]? = W.heap[b]?) (hs : W.heap.size ≤ W'.heap.size) : Arr W' b f :=
  ⟨by have := h.lt; omega, fun q hq => by rw [cell_of_heap e]; exact h.cell q hq, fun q => by rw [World.frozen?_of_block (w := W) (a := ⟨b, q, none⟩) e]; exact h.frozen q⟩

theorem Arr.below {W W' : World} {b : Nat} {f : Nat → Bool} (h : Arr W b f) (hb : Below W.heap.size W W') : Arr W' b f := h.of_block (hb.block b h.lt) hb.size

/-- A new block of seven bools. -/
theorem Arr.new (W : World) (f : Nat → Bool) : Arr (W.alloc (.cells #[.bool (f 0), .bool (f 1), .bool (f 2), .bool (f 3), .bool (f 4), .bool (f 5), .bool (f 6)] 63)) W.heap.size f := by
  have h1 := World.alloc_heap_new W (.cells #[.bool (f 0), .bool (f 1), .bool (f 2), .bool (f 3), .bool (f 4), .bool (f 5), .bool (f 6)] 63)
  refine ⟨by simp, fun q hq => ?_, fun q => by unfold World.frozen?; rw [h1]; simp⟩
  unfold World.cell?
  rw [h1]
  rcases lt7 hq with rfl | rfl | rfl | rfl | rfl | rfl | rfl <;> rfl

theorem cur_start (w : World) (p : Nat) (hp : p < 7) : Arr (w.alloc (.cells ([Value.bool false, .bool false, .bool false, .bool false, .bool false, .bool false, .bool false].set p (.bool true)).toArray 63)) w.heap.size (fun q => q == p) := by
  have h2 := World.alloc_heap_new w (.cells ([Value.bool false, .bool false, .bool false, .bool false, .bool false, .bool false, .bool false].set p (.bool true)).toArray 63)
  refine ⟨by simp, fun q hq => ?_, fun q => by unfold World.frozen?; rw [h2]; simp⟩
  unfold World.cell?
  rw [h2]
  rcases lt7 hp with rfl | rfl | rfl | rfl | rfl | rfl | rfl <;> rcases lt7 hq with rfl | rfl | rfl | rfl | rfl | rfl | rfl <;> rfl

/-- The whole array is stored. -/
theorem Arr.copy {W : World} {b : Nat} {f : Nat → Bool} (h : Arr W b f) (g : Nat → Bool) :
    Arr (((((((W.setCell ⟨b, 0, none⟩ (.bool (g 0))).setCell ⟨b, 1, none⟩ (.bool (g 1))).setCell ⟨b, 2, none⟩ (.bool (g 2))).setCell ⟨b, 3, none⟩ (.bool (g 3))).setCell ⟨b, 4, none⟩ (.bool (g 4))).setCell ⟨b, 5, none⟩ (.bool (g 5))).setCell ⟨b, 6, none⟩ (.bool (g 6))) b g := by
  have h' := ((((((h.set (q := 0) (by omega) (g 0)).set (q := 1) (by omega) (g 1)).set (q := 2) (by omega) (g 2)).set (q := 3) (by omega) (g 3)).set (q := 4) (by omega) (g 4)).set (q := 5) (by omega) (g 5)).set (q := 6) (by omega) (g 6)
  refine h'.congr fun q hq => ?_
  rcases lt7 hq with rfl | rfl | rfl | rfl | rfl | rfl | rfl <;> rfl

theorem set_eq {w : World} {p : Addr} {x y : Bool} (h : x = y) : w.setCell p (.bool x) = w.setCell p (.bool y) := by rw [h]

theorem set_two (a b1 : Bool) (q t f : Nat) : (if q = f then true else (a || (b1 && q == t))) = (a || ((2 == 2) && true && (b1 && q == t || true && q == f))) := by
  by_cases e : q = f
  · subst e; simp
  · have e' : (q == f) = false := by simpa using e
    rw [if_neg e, e']
    simp

theorem set_upto {f : Nat → Bool} {k : Nat} {u : Bool} (h : f k = u) (q : Nat) : (if q = k then u else (decide (q < k) && f q)) = (decide (q < k + 1) && f q) := by
  by_cases e : q = k
  · subst e; simp [h]
  · rw [if_neg e]
    congr 1
    exact decide_eq_decide.2 (by omega)

theorem row_upto {f : Nat → Value} {k : Nat} {u z : Value} (h : f k = u) (i : Nat) : (if i = k then u else if i < k then f i else z) = if i < k + 1 then f i else z := by
  by_cases e : i = k
  · subst e; simp [h]
  · rw [if_neg e]
    by_cases e2 : i < k
    · rw [if_pos e2, if_pos (by omega)]
    · rw [if_neg e2, if_neg (by omega)]

theorem take_snoc (path : List Nat) (m : Nat) (h : m < path.length) : path.take (m + 1) = path.take m ++ [path.getD m 0] := by
  rw [List.take_add_one, List.getElem?_eq_getElem h]
  simp [List.getD, List.getElem?_eq_getElem h]

theorem any_take_snoc (paths : List (List Nat)) (f : List Nat → Bool) (q : Nat) (h : q < paths.length) : (paths.take (q + 1)).any f = ((paths.take q).any f || f (paths.getD q [])) := by
  rw [List.take_add_one, List.any_append, List.getElem?_eq_getElem h]
  simp [List.getD, List.getElem?_eq_getElem h]

theorem any_take_le (paths : List (List Nat)) (f : List Nat → Bool) (q : Nat) (h : (paths.take q).any f = true) : paths.any f = true := by
  rw [List.any_eq_true] at h ⊢
  obtain ⟨x, hx, h⟩ := h
  exact ⟨x, List.mem_of_mem_take hx, h⟩

theorem flat_getD (rs : List Nat) (g : Nat → Value) : (flat rs.length fun i => [g (rs.getD i 0)]) = rs.map g := by
  refine List.ext_getElem? fun k => ?_
  by_cases h : k < rs.length
  · rw [flat1 h]
    simp [List.getD, List.getElem?_eq_getElem h]
  · rw [List.getElem?_eq_none (by rw [flat_len1]; omega), List.getElem?_eq_none (by simp; omega)]

theorem ints_of_is {W : World} {b : Nat} {rs : List Nat} (h : W.rowIs b 3 rs.length (fun i => .int .i64 (rs.getD i 0 : Nat))) : Ints AnyB W (.slice (some ⟨b, 0, none⟩) rs.length rs.length) (rs.map fun x => ((x : Nat) : Int)) := by
  have h1 := row_of_is h
  rw [flat_getD rs (fun x => .int .i64 (x : Nat))] at h1
  show Row AnyB W _ (rs.map fun x => ((x : Nat) : Int)).length 1 ((rs.map fun x => ((x : Nat) : Int)).map (Value.int .i64))
  rw [List.length_map, List.map_map]
  exact h1

theorem roleIn_int (rs : List Nat) (r : Nat) : ((rs.map fun x => ((x : Nat) : Int)).any fun y => decide ((r : Int) = y)) = roleIn rs r := by
  unfold roleIn
  rw [List.any_map]
  congr 1
  funext x
  by_cases e : r = x
  · subst e; simp
  · have : ¬ (r : Int) = (x : Int) := by omega
    simp [e, this]

end Go.Proofs.YbulkcfwsFmt
