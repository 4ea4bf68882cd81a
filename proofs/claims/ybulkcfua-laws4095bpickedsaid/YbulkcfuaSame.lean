import Derived.Test.YbulkcfuaReq
import Derived.Lib.Walk
import Derived.Lib.SliceRun
namespace Go.Proofs.Ybulkcfua
open Go.RowKit

set_option maxHeartbeats 400000 in
theorem same_any (v v' : Value) (B B' n : Nat) (S : Nat → ByteArray) (w : World) (h : Strs w B v n S) (h' : Strs w B' v' n S) :
    Calls Yba.prog 9 #[v, v'] w fun e w' => e = .returned (.bool true) ∧ ∃ q, w' = w.drewN q := by
  obtain ⟨a, cap, rfl, hn, h⟩ := h
  obtain ⟨a', cap', rfl, -, h'⟩ := h'
  go_enter Yba.func9, Yba.ntmps9
  go_wp2
  go_loopw [5] (fun i wr => ∃ k : Nat, k ≤ n ∧ i = .int .i64 k ∧ ∃ q, wr = w.drewN q) (fun i _ => n - (intOf i).toNat)
  case atStart => exact ⟨0, Nat.zero_le _, rfl, 0, rfl⟩
  case round =>
    obtain ⟨k, hk, rfl, q, rfl⟩ := hrel
    by_cases hlt : k < n
    · obtain ⟨b, off, rfl, -, hc⟩ : ∃ b off, a = some ⟨b, off, none⟩ ∧ b < B ∧ ∀ j, j < n → w.cell? ⟨b, off + j, none⟩ = some (.string (S j)) := by
        rcases h with h0 | h
        · omega
        · exact h
      obtain ⟨b', off', rfl, -, hc'⟩ : ∃ b off, a' = some ⟨b, off, none⟩ ∧ b < B' ∧ ∀ j, j < n → w.cell? ⟨b, off + j, none⟩ = some (.string (S j)) := by
        rcases h' with h0 | h
        · omega
        · exact h
      have hcell := hc k hlt
      have hcell' := hc' k hlt
      clear hc hc' h h'
      go_wp2
      go_quiet (fail)
      go_wp2
      go_roundw
      case rel => exact ⟨k + 1, by omega, by go_num, _, rfl⟩
      case measure => simp [intOf]; omega
    · clear h h'
      go_wp2
      go_ret
      exact ⟨rfl, _, rfl⟩
end Go.Proofs.Ybulkcfua
