import Derived.Test.YbulkcfuaSame
namespace Go.Proofs.Ybulkcfua
open Go.RowKit

/-- The cells of a slice of strings. -/
def cellsOf (n : Nat) (S : Nat → ByteArray) : List Value := (List.range n).map fun j => Value.string (S j)

theorem cellsOf_get {n : Nat} {S : Nat → ByteArray} {j : Nat} (h : j < n) : (cellsOf n S)[j]? = some (.string (S j)) := by
  simp [cellsOf, h]

theorem cellsOf_length (n : Nat) (S : Nat → ByteArray) : (cellsOf n S).length = n := by simp [cellsOf]

theorem strs_of_owns {w : World} {base : Nat} {v : Value} {n : Nat} {S : Nat → ByteArray} (hn : n ≤ 1024) (h : w.ownsRow base 9 1 v n (cellsOf n S)) : Strs w w.heap.size v n S := by
  have h' := h
  rcases h'.2 with ⟨rfl, rfl⟩ | ⟨g, cap, cur, rfl, hb, hg, -, -, -, -⟩
  · exact ⟨none, 0, rfl, hn, .inl rfl⟩
  · refine ⟨_, cap, rfl, hn, .inr ⟨g, 0, rfl, ?_, fun j hj => ?_⟩⟩
    · exact (Array.getElem?_eq_some_iff.1 hg).1
    · rw [Nat.zero_add, h.cellAt j (by omega), cellsOf_get hj]

theorem info9 : (Yba.prog.info? 9).map (fun i => (i.zero, i.size, i.bytes)) = some (some (Value.string { data := #[] }), 1, 16) := by kernel_rfl

set_option maxHeartbeats 1000000 in
set_option maxRecDepth 100000 in
theorem clone_some (a : Addr) (n c : Nat) (S : Nat → ByteArray) (w : World) (hn : n ≤ 1024) (hc : ∀ j, j < n → w.cell? (a.add j) = some (.string (S j))) :
    Calls Yba.prog 7 #[.slice (some a) n c] w fun e w' => ∃ v', e = .returned v' ∧ w'.ownsRow w.heap.size 9 1 v' n (cellsOf n S) ∧ Below w.heap.size w w' := by
  obtain ⟨i0, hi, hz0, hz1, hz2⟩ := info_parts info9
  have q22 : ∀ (w : World) (a : Option Addr) (n c n' c' : Nat), (binOp .eql 22 (.slice a n c) (.slice none n' c')).run Yba.prog w = .ok (.bool a.isNone) w := fun w a n c n' c' => Lib.run_eql_slice_nil w _ _ a n c n' c' Yba.underlying22
  have A : Hid (∀ j, j < n → w.cell? (a.add j) = some (.string (S j))) := hc
  clear hc
  go_enter Yba.func7, Yba.ntmps7
  go_wp2_with (at_builtin; refine wpList_append_own _ rfl _ _ 22 rfl w.heap.size 9 i0 (.string { data := #[] }) 1 16 Yba.underlying22 hi hz0 hz1 hz2 rfl (by decide) _ _ _ rfl (World.ownsRow_made w #[] 0 (Nat.le_refl _) (Nat.zero_le _) rfl) a n c (cellsOf n S) rfl ?qc1 ?qc2 ?qc3 ?qc4 ?qc5 ?qc6 ?_)
  case qc1 => rw [cellsOf_length]; omega
  case qc2 =>
    intro j u hj
    have hjn : j < n := by
      have := (List.getElem?_eq_some_iff.1 hj).1
      rwa [cellsOf_length] at this
    refine Lib.cell?_alloc_some _ ?_
    rw [A.out j hjn]
    rw [cellsOf_get hjn] at hj
    exact hj
  case qc3 => intro u hu; obtain ⟨x, _, rfl⟩ := List.mem_map.1 hu; rfl
  case qc4 => unfold maxLen; omega
  case qc5 => omega
  case qc6 => simp
  intro v' w1 hown hgrow hnil
  go_wp2
  go_ret
  refine ⟨v', rfl, by simpa using hown, ?_⟩
  exact ((Below.refl _ w).alloc (Nat.le_refl _) _).grown hgrow (by simp) (by intro k hk; simp [Value.ownBlock] at hk; omega)

set_option maxHeartbeats 1000000 in
theorem clone_nil (n c : Nat) (w : World) :
    Calls Yba.prog 7 #[.slice none n c] w fun e w' => e = .returned (.slice none 0 0) ∧ w' = w := by
  have q22 : ∀ (w : World) (a : Option Addr) (n c n' c' : Nat), (binOp .eql 22 (.slice a n c) (.slice none n' c')).run Yba.prog w = .ok (.bool a.isNone) w := fun w a n c n' c' => Lib.run_eql_slice_nil w _ _ a n c n' c' Yba.underlying22
  go_enter Yba.func7, Yba.ntmps7
  go_wp2
  go_ret
  exact ⟨rfl, rfl⟩

theorem clone_any (v : Value) (B n : Nat) (S : Nat → ByteArray) (w : World) (h : Strs w B v n S) :
    Calls Yba.prog 7 #[v] w fun e w' => ∃ v', e = .returned v' ∧ Strs w' w'.heap.size v' n S ∧ Below w.heap.size w w' := by
  obtain ⟨a, cap, rfl, hn, h⟩ := h
  cases a with
  | none =>
    rcases h with rfl | ⟨b, off, h0, -, -⟩
    · refine (clone_nil 0 cap w).mono ?_
      rintro e w' ⟨rfl, rfl⟩
      exact ⟨_, rfl, ⟨none, 0, rfl, by omega, .inl rfl⟩, Below.refl _ _⟩
    · cases h0
  | some a =>
    have hc : ∀ j, j < n → w.cell? (a.add j) = some (.string (S j)) := by
      rcases h with rfl | ⟨b, off, h0, -, hc⟩
      · intro j hj; omega
      · cases h0; intro j hj; rw [Addr.add_lit]; exact hc j hj
    refine (clone_some a n cap S w hn hc).mono ?_
    rintro e w' ⟨v', rfl, hown, hb⟩
    exact ⟨v', rfl, strs_of_owns hn hown, hb⟩
end Go.Proofs.Ybulkcfua
