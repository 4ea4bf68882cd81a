import Derived.Test.YbulkcfwsFmtLibI
namespace Go.Proofs.YbulkcfwsFmt
open Go.RowKit

set_option maxHeartbeats 1000000 in
theorem bin_some (b off n cap : Nat) (S : Nat → Int) (t : Int) (w : World) (hn : n ≤ 1000000) (hc : ∀ j, j < n → w.cell? ⟨b, off + j, none⟩ = some (.int .i64 (S j))) (hlt : ∀ j, j < n → S j < t) :
    Calls Ybaf.prog 46 #[.slice (some ⟨b, off, none⟩) n cap, .int .i64 t] w fun e w' => e = .returned (.tuple #[.int .i64 n, .bool false]) ∧ w' = w := by
  go_enter Ybaf.func46, Ybaf.ntmps46
  go_wp2
  go_loop [7, 8] (fun i j => ∃ k : Nat, k ≤ n ∧ i = .int .i64 k ∧ j = .int .i64 n) (fun i _ => n - (intOf i).toNat)
  case atStart => exact ⟨0, Nat.zero_le _, rfl, rfl⟩
  case round =>
    obtain ⟨k, hk, rfl, rfl⟩ := hrel
    by_cases h : k < n
    · have hm : (k + n) / 2 < n := by omega
      have hcell := hc _ hm
      have hl := hlt _ hm
      go_wp2_with (go_at_call 57; refine (less_any _ _ _ hl).mono ?_; rintro e w' ⟨rfl, rfl⟩)
      refine ⟨⟨(k + n) / 2 + 1, by omega, by congr 1, rfl⟩, ?_⟩
      simp [intOf]
      omega
    · obtain rfl : k = n := by omega
      go_wp2
      go_ret2
      exact ⟨rfl, rfl⟩

set_option maxHeartbeats 1000000 in
theorem bin_none (a : Option Addr) (cap : Nat) (t : Int) (w : World) :
    Calls Ybaf.prog 46 #[.slice a (0 : Nat) cap, .int .i64 t] w fun e w' => e = .returned (.tuple #[.int .i64 0, .bool false]) ∧ w' = w := by
  go_enter Ybaf.func46, Ybaf.ntmps46
  go_wp2
  refine wp_loop_rounds 1 ?_
  rw [rounds_succ]
  go_wp2
  go_ret2
  exact ⟨rfl, rfl⟩

theorem bin_any {ok : Nat → Prop} (v : Value) (xs : List Int) (t : Int) (w : World) (h : Ints ok w v xs) (hn : xs.length ≤ 1000000) (hlt : ∀ x ∈ xs, x < t) :
    Calls Ybaf.prog 46 #[v, .int .i64 t] w fun e w' => e = .returned (.tuple #[.int .i64 xs.length, .bool false]) ∧ w' = w := by
  obtain ⟨-, a, cap, rfl, -, h⟩ := h
  rcases h with h | ⟨b, off, rfl, _, _, hc⟩
  · rw [h]
    exact bin_none a cap t w
  · exact bin_some b off xs.length cap (fun j => xs.getD j 0) t w hn (fun j hj => hc j _ (by simp [List.getD, List.getElem?_eq_getElem hj])) (fun j hj => by
      simp only [List.getD, List.getElem?_eq_getElem hj, Option.getD_some]
      exact hlt _ (List.getElem_mem hj))

set_option maxHeartbeats 1000000 in
theorem held_any {ok : Nat → Prop} (rb rn rcap : Nat) (ra : Option Addr) (v : Value) (xs : List Int) (w : World) (h : Ints ok w v xs) (hn : xs.length ≤ 1000000) (hlt : ∀ x ∈ xs, x < rn)
    (hr : w.cell? ⟨rb, 2, none⟩ = some (.slice ra rn rcap)) :
    Calls Ybaf.prog 34 #[.pointer (some ⟨rb, 0, none⟩), v] w fun e w' => (∃ v', e = .returned v' ∧ Ints ok w v' xs) ∧ w' = w := by
  have hb := bin_any v xs rn w h hn hlt
  have h' := h
  obtain ⟨hl, a, cap, rfl, hcap, -⟩ := h
  go_enter Ybaf.func34, Ybaf.ntmps34
  go_wp2_with (go_at_call 46; refine hb.mono ?_; rintro e w' ⟨rfl, rfl⟩)
  go_ret
  exact ⟨⟨_, rfl, h'⟩, rfl⟩

end Go.Proofs.YbulkcfwsFmt
