import Derived.Test.YbulkcfwsFmtMap
namespace Go.Proofs.YbulkcfwsFmt
open Go.RowKit

/-- A slice of n elements of m cells each, whose cells are cs, in a block that 'ok' allows. -/
def Row (ok : Nat → Prop) (w : World) (v : Value) (n m : Nat) (cs : List Value) : Prop :=
  cs.length = n * m ∧ ∃ a cap, v = .slice a n cap ∧ n ≤ cap ∧ (n = 0 ∨ ∃ b off, a = some ⟨b, off, none⟩ ∧ ok b ∧ b < w.heap.size ∧ ∀ j u, cs[j]? = some u → w.cell? ⟨b, off + j, none⟩ = some u)

theorem cell_of_heap {w w' : World} {b : Nat} (h : w'.heap[b]? = w.heap[b]?) (j : Nat) : w'.cell? ⟨b, j, none⟩ = w.cell? ⟨b, j, none⟩ := by
  unfold World.cell?
  rw [h]

theorem Row.keep {ok ok' : Nat → Prop} {w w' : World} {v : Value} {n m : Nat} {cs : List Value} (h : Row ok w v n m cs)
    (hk : ∀ b, ok b → b < w.heap.size → w'.heap[b]? = w.heap[b]? ∧ ok' b) (hs : w.heap.size ≤ w'.heap.size) : Row ok' w' v n m cs := by
  obtain ⟨hl, a, cap, rfl, hcap, h⟩ := h
  refine ⟨hl, a, cap, rfl, hcap, ?_⟩
  rcases h with h | ⟨b, off, rfl, hok, hb, hc⟩
  · exact .inl h
  · obtain ⟨e, hok'⟩ := hk b hok hb
    exact .inr ⟨b, off, rfl, hok', Nat.lt_of_lt_of_le hb hs, fun j u hj => by rw [cell_of_heap e]; exact hc j u hj⟩

theorem Row.below {B : Nat} {w w' : World} {v : Value} {n m : Nat} {cs : List Value} (h : Row (· < B) w v n m cs) (hb : Below B w w') : Row (· < B) w' v n m cs :=
  h.keep (fun b hok _ => ⟨hb.block b hok, hok⟩) hb.size

theorem Row.mono {ok ok' : Nat → Prop} {w : World} {v : Value} {n m : Nat} {cs : List Value} (h : Row ok w v n m cs) (hk : ∀ b, ok b → b < w.heap.size → ok' b) : Row ok' w v n m cs :=
  h.keep (fun b hok hb => ⟨rfl, hk b hok hb⟩) (Nat.le_refl _)

theorem Row.lift {ok : Nat → Prop} {w w' : World} {v : Value} {n m : Nat} {cs : List Value} (h : Row ok w v n m cs) (hb : Below w.heap.size w w') : Row ok w' v n m cs :=
  h.keep (fun b hok hlt => ⟨hb.block b hlt, hok⟩) hb.size

theorem row_nil (ok : Nat → Prop) (w : World) (m : Nat) : Row ok w (.slice none (0 : Nat) 0) 0 m [] := ⟨by simp, none, 0, rfl, Nat.le_refl _, .inl rfl⟩

theorem row_of_owns {w : World} {base : Nat} {e : TypeId} {m : Nat} {v : Value} {n : Nat} {cs : List Value} (h : w.ownsRow base e m v n cs) : Row (fun b => v.ownBlock = some b ∧ base ≤ b) w v n m cs := by
  have h' := h
  obtain ⟨hl, h⟩ := h
  refine ⟨hl, ?_⟩
  rcases h with ⟨rfl, rfl⟩ | ⟨g, cap, cur, rfl, hb, hg, h1, h2, h3, h4⟩
  · exact ⟨none, 0, rfl, Nat.le_refl _, .inl rfl⟩
  · refine ⟨_, cap, rfl, h1, .inr ⟨g, 0, rfl, ⟨rfl, hb⟩, (Array.getElem?_eq_some_iff.1 hg).1, fun j u hj => ?_⟩⟩
    have hjl : j < n * m := by
      have := (List.getElem?_eq_some_iff.1 hj).1
      omega
    rw [Nat.zero_add, h'.cellAt j hjl, hj]

/-- A slice of strings. -/
def Strs (ok : Nat → Prop) (w : World) (v : Value) (ss : List ByteArray) : Prop := Row ok w v ss.length 1 (ss.map Value.string)

/-- A slice of ints. -/
def Ints (ok : Nat → Prop) (w : World) (v : Value) (xs : List Int) : Prop := Row ok w v xs.length 1 (xs.map (Value.int .i64))

theorem Row.cell {ok : Nat → Prop} {w : World} {v : Value} {n m : Nat} {cs : List Value} (h : Row ok w v n m cs) (hn : 0 < n) :
    ∃ b off cap, v = .slice (some ⟨b, off, none⟩) n cap ∧ ok b ∧ b < w.heap.size ∧ ∀ j u, cs[j]? = some u → w.cell? ⟨b, off + j, none⟩ = some u := by
  obtain ⟨hl, a, cap, rfl, hcap, h⟩ := h
  rcases h with h | ⟨b, off, rfl, hok, hb, hc⟩
  · omega
  · exact ⟨b, off, cap, rfl, hok, hb, hc⟩

theorem Row.form {ok : Nat → Prop} {w : World} {v : Value} {n m : Nat} {cs : List Value} (h : Row ok w v n m cs) : ∃ a cap, v = .slice a n cap := by
  obtain ⟨hl, a, cap, rfl, hcap, h⟩ := h
  exact ⟨a, cap, rfl⟩

/-- 'x' is among the first n strings. -/
def hasB (n : Nat) (S : Nat → ByteArray) (x : ByteArray) : Bool := (List.range n).any fun j => x.toList == (S j).toList

theorem hasB_succ (k : Nat) (S : Nat → ByteArray) (x : ByteArray) : hasB (k + 1) S x = (hasB k S x || (x.toList == (S k).toList)) := by
  simp [hasB, List.range_succ, List.any_append]

theorem hasB_mem {n k : Nat} {S : Nat → ByteArray} {x : ByteArray} (hk : k < n) (h : (x.toList == (S k).toList) = true) : hasB n S x = true := by
  unfold hasB
  rw [List.any_eq_true]
  exact ⟨k, List.mem_range.2 hk, h⟩

theorem hasB_list (ss : List ByteArray) (x : ByteArray) : hasB ss.length (fun j => ss.getD j ⟨#[]⟩) x = ss.any fun s => x.toList == s.toList := by
  rw [Bool.eq_iff_iff]
  simp only [hasB, List.any_eq_true, List.mem_range]
  constructor
  · rintro ⟨j, hj, h⟩
    refine ⟨ss.getD j ⟨#[]⟩, ?_, h⟩
    simp [List.getD, List.getElem?_eq_getElem hj]
  · rintro ⟨s, hs, h⟩
    obtain ⟨j, hj, rfl⟩ := List.mem_iff_getElem.1 hs
    exact ⟨j, hj, by simpa [List.getD, List.getElem?_eq_getElem hj] using h⟩

end Go.Proofs.YbulkcfwsFmt
