import Derived.Test.YbulkcfwsFmtRow
namespace Go.Proofs.YbulkcfwsFmt
open Go.RowKit

set_option maxHeartbeats 400000 in
theorem indexS_any (b off n cap : Nat) (S : Nat → ByteArray) (x : ByteArray) (w : World) (hn : n ≤ 4611686018427387904)
    (hc : ∀ j, j < n → w.cell? ⟨b, off + j, none⟩ = some (.string (S j))) :
    Calls Ybaf.prog 36 #[.slice (some ⟨b, off, none⟩) n cap, .string x] w fun e w' => (∃ k : Int, e = .returned (.int .i64 k) ∧ decide (0 ≤ k) = hasB n S x) ∧ w' = w := by
  go_enter Ybaf.func36, Ybaf.ntmps36
  go_wp2
  go_loop [8] (fun i => ∃ k : Nat, k ≤ n ∧ i = .int .i64 k ∧ hasB k S x = false) (fun i => n - (intOf i).toNat)
  case atStart => exact ⟨0, Nat.zero_le _, rfl, rfl⟩
  case round =>
    obtain ⟨k, hk, rfl, hno⟩ := hrel
    have Hno : Hid (hasB k S x = false) := hno
    clear hno
    by_cases hlt : k < n
    · have hcell := hc k hlt
      go_wp2
      · have ht : (x.toList == (S k).toList) = true := by assumption
        go_ret
        exact ⟨⟨k, rfl, by rw [hasB_mem hlt ht]; simp⟩, rfl⟩
      · have ht : (x.toList == (S k).toList) = false := by assumption
        go_round
        case rel => exact ⟨k + 1, by omega, by go_num, by rw [hasB_succ, Hno.out, ht]; rfl⟩
        case measure => simp [intOf]; omega
    · go_wp2
      go_ret
      have : k = n := by omega
      exact ⟨⟨-1, rfl, by rw [← this, Hno.out]; rfl⟩, rfl⟩

set_option maxHeartbeats 400000 in
theorem indexS_none (a : Option Addr) (cap : Nat) (S : Nat → ByteArray) (x : ByteArray) (w : World) :
    Calls Ybaf.prog 36 #[.slice a (0 : Nat) cap, .string x] w fun e w' => (∃ k : Int, e = .returned (.int .i64 k) ∧ decide (0 ≤ k) = hasB 0 S x) ∧ w' = w := by
  go_enter Ybaf.func36, Ybaf.ntmps36
  go_wp2
  refine wp_loop_rounds 1 ?_
  rw [rounds_succ]
  go_wp2
  go_ret
  exact ⟨⟨-1, rfl, rfl⟩, rfl⟩

set_option maxHeartbeats 400000 in
theorem containsS_any {ok : Nat → Prop} (v : Value) (ss : List ByteArray) (x : ByteArray) (w : World) (h : Strs ok w v ss) (hn : ss.length ≤ 4611686018427387904) :
    Calls Ybaf.prog 26 #[v, .string x] w fun e w' => e = .returned (.bool (ss.any fun s => x.toList == s.toList)) ∧ w' = w := by
  rw [← hasB_list]
  obtain ⟨-, a, cap, rfl, -, h⟩ := h
  have hI : Calls Ybaf.prog 36 #[.slice a ss.length cap, .string x] w fun e w' => (∃ k : Int, e = .returned (.int .i64 k) ∧ decide (0 ≤ k) = hasB ss.length (fun j => ss.getD j ⟨#[]⟩) x) ∧ w' = w := by
    rcases h with h | ⟨b, off, rfl, _, _, hc⟩
    · rw [h]
      exact indexS_none a cap _ x w
    · exact indexS_any b off ss.length cap _ x w hn fun j hj => hc j _ (by simp [List.getD, List.getElem?_eq_getElem hj])
  clear h
  generalize hasB ss.length (fun j => ss.getD j ⟨#[]⟩) x = r at *
  go_enter Ybaf.func26, Ybaf.ntmps26
  go_wp2_with (go_at_call 36; refine hI.mono ?_; rintro e w' ⟨⟨k, rfl, hk⟩, rfl⟩)
  go_ret
  exact ⟨rfl, rfl⟩

set_option maxHeartbeats 400000 in
theorem indexR_any (b off n cap : Nat) (S : Nat → ByteArray) (x : ByteArray) (w : World) (hn : n ≤ 4611686018427387904)
    (hc : ∀ j, j < n → w.cell? ⟨b, off + j, none⟩ = some (.string (S j))) :
    Calls Ybaf.prog 35 #[.slice (some ⟨b, off, none⟩) n cap, .string x] w fun e w' => (∃ k : Int, e = .returned (.int .i64 k) ∧ decide (0 ≤ k) = hasB n S x) ∧ w' = w := by
  go_enter Ybaf.func35, Ybaf.ntmps35
  go_wp2
  go_loop [8] (fun i => ∃ k : Nat, k ≤ n ∧ i = .int .i64 k ∧ hasB k S x = false) (fun i => n - (intOf i).toNat)
  case atStart => exact ⟨0, Nat.zero_le _, rfl, rfl⟩
  case round =>
    obtain ⟨k, hk, rfl, hno⟩ := hrel
    have Hno : Hid (hasB k S x = false) := hno
    clear hno
    by_cases hlt : k < n
    · have hcell := hc k hlt
      go_wp2
      · have ht : (x.toList == (S k).toList) = true := by assumption
        go_ret
        exact ⟨⟨k, rfl, by rw [hasB_mem hlt ht]; simp⟩, rfl⟩
      · have ht : (x.toList == (S k).toList) = false := by assumption
        go_round
        case rel => exact ⟨k + 1, by omega, by go_num, by rw [hasB_succ, Hno.out, ht]; rfl⟩
        case measure => simp [intOf]; omega
    · go_wp2
      go_ret
      have : k = n := by omega
      exact ⟨⟨-1, rfl, by rw [← this, Hno.out]; rfl⟩, rfl⟩

set_option maxHeartbeats 400000 in
theorem indexR_none (a : Option Addr) (cap : Nat) (S : Nat → ByteArray) (x : ByteArray) (w : World) :
    Calls Ybaf.prog 35 #[.slice a (0 : Nat) cap, .string x] w fun e w' => (∃ k : Int, e = .returned (.int .i64 k) ∧ decide (0 ≤ k) = hasB 0 S x) ∧ w' = w := by
  go_enter Ybaf.func35, Ybaf.ntmps35
  go_wp2
  refine wp_loop_rounds 1 ?_
  rw [rounds_succ]
  go_wp2
  go_ret
  exact ⟨⟨-1, rfl, rfl⟩, rfl⟩

set_option maxHeartbeats 400000 in
theorem containsR_any {ok : Nat → Prop} (v : Value) (ss : List ByteArray) (x : ByteArray) (w : World) (h : Strs ok w v ss) (hn : ss.length ≤ 4611686018427387904) :
    Calls Ybaf.prog 25 #[v, .string x] w fun e w' => e = .returned (.bool (ss.any fun s => x.toList == s.toList)) ∧ w' = w := by
  rw [← hasB_list]
  obtain ⟨-, a, cap, rfl, -, h⟩ := h
  have hI : Calls Ybaf.prog 35 #[.slice a ss.length cap, .string x] w fun e w' => (∃ k : Int, e = .returned (.int .i64 k) ∧ decide (0 ≤ k) = hasB ss.length (fun j => ss.getD j ⟨#[]⟩) x) ∧ w' = w := by
    rcases h with h | ⟨b, off, rfl, _, _, hc⟩
    · rw [h]
      exact indexR_none a cap _ x w
    · exact indexR_any b off ss.length cap _ x w hn fun j hj => hc j _ (by simp [List.getD, List.getElem?_eq_getElem hj])
  clear h
  generalize hasB ss.length (fun j => ss.getD j ⟨#[]⟩) x = r at *
  go_enter Ybaf.func25, Ybaf.ntmps25
  go_wp2_with (go_at_call 35; refine hI.mono ?_; rintro e w' ⟨⟨k, rfl, hk⟩, rfl⟩)
  go_ret
  exact ⟨rfl, rfl⟩
end Go.Proofs.YbulkcfwsFmt
