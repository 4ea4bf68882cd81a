import Derived.Test.YbulkcfuaRows
import Derived.WalkKit
import Derived.WalkSpells
import Derived.WalkLawsBesides
import Derived.Deep.QuietTactic
import Derived.BigQuiet
namespace Go.Proofs.Ybulkcfua
open Go.RowKit

/-- 'x' is among the first n strings. -/
def hasB (n : Nat) (S : Nat → ByteArray) (x : ByteArray) : Bool := (List.range n).any fun j => x.toList == (S j).toList

theorem hasB_succ (k : Nat) (S : Nat → ByteArray) (x : ByteArray) : hasB (k + 1) S x = (hasB k S x || (x.toList == (S k).toList)) := by
  simp [hasB, List.range_succ, List.any_append]

theorem hasB_mem {n k : Nat} {S : Nat → ByteArray} {x : ByteArray} (hk : k < n) (h : (x.toList == (S k).toList) = true) : hasB n S x = true := by
  unfold hasB
  rw [List.any_eq_true]
  exact ⟨k, List.mem_range.2 hk, h⟩

set_option maxHeartbeats 400000 in
theorem index_any (b off n cap : Nat) (S : Nat → ByteArray) (x : ByteArray) (w : World) (hn : n ≤ 4611686018427387904)
    (hc : ∀ j, j < n → w.cell? ⟨b, off + j, none⟩ = some (.string (S j))) :
    Calls Yba.prog 12 #[.slice (some ⟨b, off, none⟩) n cap, .string x] w fun e w' => (∃ k : Int, e = .returned (.int .i64 k) ∧ decide (0 ≤ k) = hasB n S x) ∧ w' = w := by
  go_enter Yba.func12, Yba.ntmps12
  go_wp2
  go_loop [8] (fun i => ∃ k : Nat, k ≤ n ∧ i = .int .i64 k ∧ hasB k S x = false) (fun i => n - (intOf i).toNat)
  case atStart => exact ⟨0, Nat.zero_le _, rfl, rfl⟩
  case round =>
    obtain ⟨k, hk, rfl, hno⟩ := hrel
    have Hno : Hid (hasB k S x = false) := hno
    clear hno
    by_cases hlt : k < n
    · have hcell := hc k hlt
      go_wp2
      · have ht : (x.toList == (S k).toList) = true := by assumption
        go_ret
        exact ⟨⟨k, rfl, by rw [hasB_mem hlt ht]; simp⟩, rfl⟩
      · have ht : (x.toList == (S k).toList) = false := by assumption
        go_round
        case rel => exact ⟨k + 1, by omega, by go_num, by rw [hasB_succ, Hno.out, ht]; rfl⟩
        case measure => simp [intOf]; omega
    · go_wp2
      go_ret
      have : k = n := by omega
      exact ⟨⟨-1, rfl, by rw [← this, Hno.out]; rfl⟩, rfl⟩

set_option maxHeartbeats 400000 in
theorem index_none (a : Option Addr) (cap : Nat) (S : Nat → ByteArray) (x : ByteArray) (w : World) :
    Calls Yba.prog 12 #[.slice a (0 : Nat) cap, .string x] w fun e w' => (∃ k : Int, e = .returned (.int .i64 k) ∧ decide (0 ≤ k) = hasB 0 S x) ∧ w' = w := by
  go_enter Yba.func12, Yba.ntmps12
  go_wp2
  refine wp_loop_rounds 1 ?_
  rw [rounds_succ]
  go_wp2
  go_ret
  exact ⟨⟨-1, rfl, rfl⟩, rfl⟩

/-- A slice of strings: of n elements 'S 0 ..', below block B. -/
def Strs (w : World) (B : Nat) (v : Value) (n : Nat) (S : Nat → ByteArray) : Prop :=
  ∃ a cap, v = .slice a n cap ∧ n ≤ 1024 ∧ (n = 0 ∨ ∃ b off, a = some ⟨b, off, none⟩ ∧ b < B ∧ ∀ j, j < n → w.cell? ⟨b, off + j, none⟩ = some (.string (S j)))

set_option maxHeartbeats 400000 in
theorem contains_any (v : Value) (B n : Nat) (S : Nat → ByteArray) (x : ByteArray) (w : World) (h : Strs w B v n S) :
    Calls Yba.prog 11 #[v, .string x] w fun e w' => e = .returned (.bool (hasB n S x)) ∧ w' = w := by
  obtain ⟨a, cap, rfl, hn, h⟩ := h
  have hI : Calls Yba.prog 12 #[.slice a n cap, .string x] w fun e w' => (∃ k : Int, e = .returned (.int .i64 k) ∧ decide (0 ≤ k) = hasB n S x) ∧ w' = w := by
    rcases h with rfl | ⟨b, off, rfl, _, hc⟩
    · exact index_none a cap S x w
    · exact index_any b off n cap S x w (by omega) hc
  clear h
  generalize hasB n S x = r at *
  go_enter Yba.func11, Yba.ntmps11
  go_wp2_with (go_at_call 12; refine hI.mono ?_; rintro e w' ⟨⟨k, rfl, hk⟩, rfl⟩)
  go_ret
  exact ⟨rfl, rfl⟩

end Go.Proofs.Ybulkcfua
