import Derived.Test.YbulkcfwsFmtReg
import Derived.Test.YbulkcfwsFmtShelf
namespace Go.Proofs.YbulkcfwsFmt
open Go.RowKit Go.Sort

theorem below_putRow {α : Type} [Inhabited α] (enc : α → Value) (w : World) (n blk off : Nat) (d : Array α) (os : Array Obj) (hb : blk < w.heap.size) : RowKit.Below blk w (grow (putRow enc (Sort.ahead w n) blk off d) os) := by
  refine ⟨rfl, rfl, rfl, by simp, fun k hk => ?_⟩
  rw [heap_grow_old _ _ (by simpa using Nat.lt_trans hk hb)]
  simp only [putRow, mapBlock, heap_ahead, Array.getElem?_modify]
  rw [if_neg (by omega)]

/-- The bytes of party p's name. -/
def bytesOf (p : Nat) : List UInt8 := (nameOf p).data.toList

theorem encStr_bytes (p : Nat) : encStr (bytesOf p) = .string (nameOf p) := rfl

def unName (l : List UInt8) : Nat := ((List.range 7).find? fun p => bytesOf p == l).getD 0

theorem unName_bytes {p : Nat} (h : p < 7) : unName (bytesOf p) = p := by
  rcases lt7 h with rfl | rfl | rfl | rfl | rfl | rfl | rfl <;> decide +kernel

theorem unmap (ps : List Nat) (hp : ∀ p ∈ ps, p < 7) (ls : List (List UInt8)) (h : ∀ l, l ∈ ls ↔ l ∈ ps.map bytesOf) : ∃ qs : List Nat, ls = qs.map bytesOf ∧ ∀ q, q ∈ qs ↔ q ∈ ps := by
  refine ⟨ls.map unName, ?_, fun q => ?_⟩
  · rw [List.map_map]
    conv => lhs; rw [← List.map_id ls]
    refine List.map_congr_left fun l hl => ?_
    obtain ⟨p, hps, rfl⟩ := List.mem_map.1 ((h l).1 hl)
    simp [unName_bytes (hp p hps)]
  · constructor
    · intro hq
      obtain ⟨l, hl, rfl⟩ := List.mem_map.1 hq
      obtain ⟨p, hps, rfl⟩ := List.mem_map.1 ((h l).1 hl)
      rw [unName_bytes (hp p hps)]
      exact hps
    · intro hq
      exact List.mem_map.2 ⟨bytesOf q, (h _).2 (List.mem_map.2 ⟨q, hq, rfl⟩), unName_bytes (hp q hq)⟩

theorem mem_compactUpTo {α : Type} [Inhabited α] [DecidableEq α] (d : Array α) (m : Nat) (x : α) : x ∈ Lib.compactUpTo d m ↔ ∃ j, j < m ∧ d[j]! = x := by
  induction m with
  | zero => simp [Lib.compactUpTo]
  | succ m ih =>
    rw [Lib.compactUpTo_succ, List.mem_append, ih]
    constructor
    · rintro (⟨j, hj, rfl⟩ | h)
      · exact ⟨j, by omega, rfl⟩
      · refine ⟨m, by omega, ?_⟩
        split at h
        · exact (List.mem_singleton.1 h).symm
        · simp at h
    · rintro ⟨j, hj, rfl⟩
      by_cases hjm : j < m
      · exact .inl ⟨j, hjm, rfl⟩
      · obtain rfl : j = m := by omega
        by_cases hk : Lib.keeps d j = true
        · right
          rw [if_pos hk]
          simp
        · left
          simp only [Lib.keeps, decide_eq_true_eq, not_or, Classical.not_not] at hk
          exact ⟨j - 1, by omega, hk.2.symm⟩

theorem mem_compact {α : Type} [Inhabited α] [DecidableEq α] (zs : List α) (x : α) : x ∈ Lib.compact zs ↔ x ∈ zs := by
  unfold Lib.compact
  rw [mem_compactUpTo]
  constructor
  · rintro ⟨j, hj, rfl⟩
    rw [getElem!_pos _ _ (by simpa using hj)]
    simp
  · intro h
    obtain ⟨j, hj, rfl⟩ := List.mem_iff_getElem.1 h
    exact ⟨j, hj, by rw [getElem!_pos _ _ (by simpa using hj)]; simp⟩

/-- v: the names of ps, in a block from base on, free to be written. -/
def Nam (base : Nat) (w : World) (v : Value) (ps : List Nat) : Prop :=
  ∃ a cap, v = .slice a ps.length cap ∧ ps.length ≤ cap ∧ (ps.length = 0 ∨ ∃ blk, a = some ⟨blk, 0, none⟩ ∧ base ≤ blk ∧ blk < w.heap.size ∧ Holds encStr w blk 0 (ps.map bytesOf).toArray)

theorem nam_of_owns {w : World} {base : Nat} {v : Value} {ps : List Nat} (h : w.ownsRow base 9 1 v ps.length (ps.map fun p => .string (nameOf p))) : Nam base w v ps := by
  have h' := h
  obtain ⟨hl, h⟩ := h
  rcases h with ⟨rfl, h0⟩ | ⟨g, cap, cur, rfl, hb, hg, h1, h2, h3, h4⟩
  · exact ⟨none, 0, by rw [h0], by omega, .inl h0⟩
  · refine ⟨_, cap, rfl, h1, .inr ⟨g, rfl, hb, (Array.getElem?_eq_some_iff.1 hg).1, fun j hj => ?_⟩⟩
    have hj' : j < ps.length := by simpa using hj
    constructor
    · rw [Nat.zero_add, h'.cellAt j (by omega)]
      simp [encStr, hj', bytesOf]
    · unfold World.frozen?
      simp [hg]

theorem Nam.strs {w : World} {base : Nat} {v : Value} {ps : List Nat} (h : Nam base w v ps) : Strs (base ≤ ·) w v (ps.map nameOf) := by
  obtain ⟨a, cap, rfl, hcap, h⟩ := h
  refine ⟨by simp, a, cap, by simp, by simpa using hcap, ?_⟩
  rcases h with h | ⟨blk, rfl, hb, hlt, hH⟩
  · exact .inl (by simpa using h)
  · refine .inr ⟨blk, 0, rfl, hb, hlt, fun j u hj => ?_⟩
    have hj' : j < ps.length := by simpa using (List.getElem?_eq_some_iff.1 hj).1
    rw [(hH j (by simpa using hj')).1]
    simp only [List.getElem?_map, List.map_map, List.getElem?_eq_getElem hj', Option.map_some, Option.some.injEq, Function.comp] at hj
    subst hj
    simp [encStr, hj', bytesOf]

theorem sortN_any (base : Nat) (v : Value) (ps : List Nat) (w : World) (h : Nam base w v ps) (hp : ∀ p ∈ ps, p < 7) (hn : ps.length ≤ 100000000) :
    Calls Ybaf.prog 44 #[v] w fun e w' => e = .returned (.tuple #[]) ∧ RowKit.Below base w w' ∧ ∃ qs : List Nat, (∀ q, q ∈ qs ↔ q ∈ ps) ∧ qs.length = ps.length ∧ Nam base w' v qs := by
  obtain ⟨a, cap, rfl, hcap, h⟩ := h
  rcases h with h | ⟨blk, rfl, hb, hlt, hH⟩
  · rw [h]
    refine (Ybaf.slices_Sort_string_none a cap w).mono ?_
    rintro e w' ⟨rfl, rfl⟩
    exact ⟨rfl, RowKit.Below.refl _ _, ps, fun _ => Iff.rfl, h, a, cap, by rw [h], by omega, .inl h⟩
  · have hS := Ybaf.slices_Sort_string blk 0 cap (ps.map bytesOf) w hH hlt (by simp; omega)
    rw [List.length_map] at hS
    refine hS.mono ?_
    rintro e w' ⟨rfl, n, os, rfl⟩
    obtain ⟨qs, hqs, hmem⟩ := unmap ps hp ((ps.map bytesOf).mergeSort fun x y => decide (x ≤ y)) (fun l => List.mem_mergeSort)
    have hlen : qs.length = ps.length := by
      have := congrArg List.length hqs
      simpa using this.symm
    refine ⟨rfl, (below_putRow encStr w n blk 0 _ os hlt).mono hb, qs, hmem, hlen, _, cap, by rw [hlen], by omega, .inr ⟨blk, rfl, hb, by simp; omega, ?_⟩⟩
    rw [hqs]
    refine holds_grow _ _ _ _ _ _ (by simpa using hlt) (holds_putRow _ _ _ _ _ _ (holds_ahead _ _ _ _ _ _ hH) ?_)
    rw [← hqs]
    simp

theorem compactN_any (base : Nat) (v : Value) (ps : List Nat) (w : World) (h : Nam base w v ps) (hp : ∀ p ∈ ps, p < 7) (hn : ps.length ≤ 100000000) :
    Calls Ybaf.prog 53 #[v] w fun e w' => ∃ (v' : Value) (qs : List Nat), e = .returned v' ∧ RowKit.Below base w w' ∧ (∀ q, q ∈ qs ↔ q ∈ ps) ∧ qs.length ≤ ps.length ∧ Strs (base ≤ ·) w' v' (qs.map nameOf) := by
  have h' := h
  obtain ⟨a, cap, rfl, hcap, h⟩ := h
  rcases h with h | ⟨blk, rfl, hb, hlt, hH⟩
  · rw [h]
    refine (Ybaf.slices_Compact_string_empty a cap w).mono ?_
    rintro e w' ⟨rfl, rfl⟩
    rw [h] at h'
    exact ⟨_, ps, rfl, RowKit.Below.refl _ _, fun _ => Iff.rfl, by omega, h'.strs⟩
  · have hS := Ybaf.slices_Compact_string blk 0 cap (ps.map bytesOf) w hH (by simp; omega) (by simpa using hcap)
    rw [List.length_map] at hS
    refine hS.mono ?_
    rintro e w' ⟨rfl, q, rfl⟩
    obtain ⟨qs, hqs, hmem⟩ := unmap ps hp (Lib.compact (ps.map bytesOf)) (fun l => mem_compact _ _)
    have hle := Lib.compact_length_le (ps.map bytesOf)
    rw [hqs] at hle
    simp only [List.length_map] at hle
    have hbl := below_putRow encStr w q blk 0 (Lib.compact (ps.map bytesOf) ++ List.replicate (ps.length - (Lib.compact (ps.map bytesOf)).length) []).toArray #[] hlt
    rw [grow_empty] at hbl
    refine ⟨_, qs, rfl, hbl.mono hb, hmem, hle, ?_⟩
    rw [hqs, List.length_map]
    have hH2 := holds_putRow encStr (Sort.ahead w q) blk 0 (ps.map bytesOf).toArray (qs.map bytesOf ++ List.replicate (ps.length - qs.length) []).toArray (holds_ahead _ _ _ _ _ _ hH) (by simp; omega)
    refine Nam.strs ⟨_, cap, rfl, by omega, .inr ⟨blk, rfl, hb, by simpa using hlt, fun j hj => ?_⟩⟩
    have hj' : j < qs.length := by simpa using hj
    have := hH2 j (by simp; omega)
    refine ⟨this.1.trans ?_, this.2⟩
    simp [hj', List.getElem?_append]
end Go.Proofs.YbulkcfwsFmt
