import Derived.Test.YbulkcfuaIdx
namespace Go.Proofs.Ybulkcfua
open Go.RowKit

set_option maxHeartbeats 400000 in
theorem gives_any (rb : Nat) (v : Value) (B n : Nat) (S : Nat → ByteArray) (x : ByteArray) (w : World) (h : Strs w B v n S) (hr : w.cell? ⟨rb, 45, none⟩ = some v) :
    Calls Yba.prog 10 #[.pointer (some ⟨rb, 0, none⟩), .string x] w fun e w' => e = .returned (.bool (hasB n S x)) ∧ w' = w := by
  have hC := contains_any v B n S x w h
  obtain ⟨a, cap, rfl, -, -⟩ := h
  generalize hasB n S x = r at *
  go_enter Yba.func10, Yba.ntmps10
  go_wp2_with (go_at_call 11; refine hC.mono ?_; rintro e w' ⟨rfl, rfl⟩)
  go_ret
  exact ⟨rfl, rfl⟩

/-- "missing" -/
def missing : ByteArray := { data := #[109, 105, 115, 115, 105, 110, 103] }

set_option maxHeartbeats 400000 in
theorem require_any (rb : Nat) (v : Value) (B n : Nat) (S : Nat → ByteArray) (fv : Value) (B' m : Nat) (F : Nat → ByteArray) (w : World) (h : Strs w B v n S) (hr : w.cell? ⟨rb, 45, none⟩ = some v) (hf : Strs w B' fv m F) :
    Calls Yba.prog 8 #[.pointer (some ⟨rb, 0, none⟩), fv] w fun e w' => ∃ k, k ≤ m ∧ (∀ i, i < k → hasB n S (F i) = true) ∧
      (k = m ∧ e = .returned .nilIface ∧ w' = w ∨
       k < m ∧ hasB n S (F k) = false ∧ e = .returned (.iface 46 (.pointer (some ⟨w.heap.size, 0, none⟩))) ∧ w' = w.alloc (.cells #[.string (F k), .string missing] 49)) := by
  have hG := fun x => gives_any rb v B n S x w h hr
  clear h hr
  have HG : Hid (∀ x, Calls Yba.prog 10 #[.pointer (some ⟨rb, 0, none⟩), .string x] w fun e w' => e = .returned (.bool (hasB n S x)) ∧ w' = w) := hG
  clear hG
  obtain ⟨a, cap, rfl, hm, hf⟩ := hf
  go_enter Yba.func8, Yba.ntmps8
  go_wp2
  go_loop [9, 6] (fun i f => ∃ k : Nat, k ≤ m ∧ i = .int .i64 k ∧ (∀ j, j < k → hasB n S (F j) = true)) (fun i _ => m - (intOf i).toNat)
  case atStart => exact ⟨0, Nat.zero_le _, rfl, fun j hj => by omega⟩
  case round =>
    obtain ⟨k, hk, rfl, hyes⟩ := hrel
    have Hyes : Hid (∀ j, j < k → hasB n S (F j) = true) := hyes
    clear hyes
    by_cases hlt : k < m
    · obtain ⟨b, off, rfl, -, hc⟩ : ∃ b off, a = some ⟨b, off, none⟩ ∧ b < B' ∧ ∀ j, j < m → w.cell? ⟨b, off + j, none⟩ = some (.string (F j)) := by
        rcases hf with h0 | h
        · omega
        · exact h
      have hcell := hc k hlt
      clear hc hf
      cases hb : hasB n S (F k)
      · have Hb : Hid (hasB n S (F k) = false) := hb
        have hGk := HG.out (F k)
        rw [hb] at hGk
        clear hb
        go_wp2_with (go_at_call 10; refine hGk.mono ?_; rintro e w' ⟨rfl, rfl⟩)
        go_ret
        exact ⟨k, hk, Hyes.out, .inr ⟨hlt, Hb.out, rfl, rfl⟩⟩
      · have Hb : Hid (hasB n S (F k) = true) := hb
        have hGk := HG.out (F k)
        rw [hb] at hGk
        clear hb
        go_wp2_with (go_at_call 10; refine hGk.mono ?_; rintro e w' ⟨rfl, rfl⟩)
        go_round
        case rel => exact ⟨k + 1, by omega, by go_num, fun j hj => by
          by_cases e : j = k
          · rw [e]; exact Hb.out
          · exact Hyes.out j (by omega)⟩
        case measure => simp [intOf]; omega
    · have e : k = m := by omega
      clear hf
      go_wp2
      go_ret
      exact ⟨k, hk, Hyes.out, .inl ⟨e, rfl, rfl⟩⟩
end Go.Proofs.Ybulkcfua
