import Derived.Test.YbulkcfwsFmtLibS
namespace Go.Proofs.YbulkcfwsFmt
open Go.RowKit

set_option maxHeartbeats 400000 in
theorem indexI_any (b off n cap : Nat) (S : Nat → Int) (x : Int) (w : World) (hn : n ≤ 4611686018427387904)
    (hc : ∀ j, j < n → w.cell? ⟨b, off + j, none⟩ = some (.int .i64 (S j))) :
    Calls Ybaf.prog 29 #[.slice (some ⟨b, off, none⟩) n cap, .int .i64 x] w fun e w' => (∃ k : Int, e = .returned (.int .i64 k) ∧ decide (0 ≤ k) = (List.range n).any fun j => decide (x = S j)) ∧ w' = w := by
  go_enter Ybaf.func29, Ybaf.ntmps29
  go_wp2
  go_loop [8] (fun i => ∃ k : Nat, k ≤ n ∧ i = .int .i64 k ∧ ((List.range k).any fun j => decide (x = S j)) = false) (fun i => n - (intOf i).toNat)
  case atStart => exact ⟨0, Nat.zero_le _, rfl, rfl⟩
  case round =>
    obtain ⟨k, hk, rfl, hno⟩ := hrel
    have Hno : Hid (((List.range k).any fun j => decide (x = S j)) = false) := hno
    clear hno
    by_cases hlt : k < n
    · have hcell := hc k hlt
      go_wp2
      · have ht : x = S k := eq_of_beq (by assumption)
        go_ret
        refine ⟨⟨k, rfl, ?_⟩, rfl⟩
        rw [List.any_eq_true.2 ⟨k, List.mem_range.2 hlt, by simp [ht]⟩]
        simp
      · have ht : ¬ x = S k := ne_of_beq_false (by assumption)
        go_round
        case rel => exact ⟨k + 1, by omega, by go_num, by rw [List.range_succ, List.any_append, Hno.out]; simp [ht]⟩
        case measure => simp [intOf]; omega
    · go_wp2
      go_ret
      have : k = n := by omega
      exact ⟨⟨-1, rfl, by rw [← this, Hno.out]; rfl⟩, rfl⟩

set_option maxHeartbeats 400000 in
theorem indexI_none (a : Option Addr) (cap : Nat) (x : Int) (w : World) :
    Calls Ybaf.prog 29 #[.slice a (0 : Nat) cap, .int .i64 x] w fun e w' => e = .returned (.int .i64 (-1)) ∧ w' = w := by
  go_enter Ybaf.func29, Ybaf.ntmps29
  go_wp2
  refine wp_loop_rounds 1 ?_
  rw [rounds_succ]
  go_wp2
  go_ret
  exact ⟨rfl, rfl⟩

theorem any_list (xs : List Int) (x : Int) : ((List.range xs.length).any fun j => decide (x = xs.getD j 0)) = xs.any fun y => decide (x = y) := by
  rw [Bool.eq_iff_iff]
  simp only [List.any_eq_true, List.mem_range]
  constructor
  · rintro ⟨j, hj, h⟩
    refine ⟨xs.getD j 0, ?_, h⟩
    simp [List.getD, List.getElem?_eq_getElem hj]
  · rintro ⟨s, hs, h⟩
    obtain ⟨j, hj, rfl⟩ := List.mem_iff_getElem.1 hs
    exact ⟨j, hj, by simpa [List.getD, List.getElem?_eq_getElem hj] using h⟩

set_option maxHeartbeats 400000 in
theorem containsI_any {ok : Nat → Prop} (v : Value) (xs : List Int) (x : Int) (w : World) (h : Ints ok w v xs) (hn : xs.length ≤ 4611686018427387904) :
    Calls Ybaf.prog 17 #[v, .int .i64 x] w fun e w' => e = .returned (.bool (xs.any fun y => decide (x = y))) ∧ w' = w := by
  rw [← any_list]
  obtain ⟨-, a, cap, rfl, -, h⟩ := h
  have hI : Calls Ybaf.prog 29 #[.slice a xs.length cap, .int .i64 x] w fun e w' => (∃ k : Int, e = .returned (.int .i64 k) ∧ decide (0 ≤ k) = (List.range xs.length).any fun j => decide (x = xs.getD j 0)) ∧ w' = w := by
    rcases h with h | ⟨b, off, rfl, _, _, hc⟩
    · rw [h]
      refine (indexI_none a cap x w).mono ?_
      rintro e w' ⟨rfl, rfl⟩
      exact ⟨⟨-1, rfl, by simp⟩, rfl⟩
    · exact indexI_any b off xs.length cap _ x w hn fun j hj => hc j _ (by simp [List.getD, List.getElem?_eq_getElem hj])
  clear h
  generalize (List.range xs.length).any (fun j => decide (x = xs.getD j 0)) = r at *
  go_enter Ybaf.func17, Ybaf.ntmps17
  go_wp2_with (go_at_call 29; refine hI.mono ?_; rintro e w' ⟨⟨k, rfl, hk⟩, rfl⟩)
  go_ret
  exact ⟨rfl, rfl⟩

set_option maxHeartbeats 400000 in
theorem isNaN_any (x : Int) (w : World) : Calls Ybaf.prog 58 #[.int .i64 x] w fun e w' => e = .returned (.bool false) ∧ w' = w := by
  go_enter Ybaf.func58, Ybaf.ntmps58
  go_wp2
  go_ret
  exact ⟨rfl, rfl⟩

set_option maxHeartbeats 400000 in
theorem isNaN2_any (x : Int) (w : World) : Calls Ybaf.prog 76 #[.int .i64 x] w fun e w' => e = .returned (.bool false) ∧ w' = w := by
  go_enter Ybaf.func76, Ybaf.ntmps76
  go_wp2
  go_ret
  exact ⟨rfl, rfl⟩

set_option maxHeartbeats 400000 in
theorem less_any (x y : Int) (w : World) (h : x < y) : Calls Ybaf.prog 57 #[.int .i64 x, .int .i64 y] w fun e w' => e = .returned (.bool true) ∧ w' = w := by
  go_enter Ybaf.func57, Ybaf.ntmps57
  go_wp2_with (go_at_call 76; refine (isNaN2_any _ _).mono ?_; rintro e w' ⟨rfl, rfl⟩)
  all_goals (go_ret; exact ⟨by first | rfl | (simp; omega), rfl⟩)

end Go.Proofs.YbulkcfwsFmt
