import Derived.Test.YbulkcfuoRows
import Derived.WalkKit
import Derived.WalkSpells
import Derived.WalkLawsBesides
namespace Go.Proofs.Ybulkcfuo
open Go.RowKit

/-- The unit's value. -/
def uv (r : Int) : Int := if r = 21313 then 10 else if r = 30334 then 100 else if r = 21315 then 1000 else if r = 19975 then 10000 else if r = 20159 then 100000000 else 0
/-- Is it the unit of a group? -/
def ug (r : Int) : Bool := decide (r = 19975) || decide (r = 20159)

theorem ret2 {a b : Int} {p q : Bool} (h : a = b) (h' : p = q) : Ending.returned (.tuple #[.int .i64 a, .bool p]) = .returned (.tuple #[.int .i64 b, .bool q]) := by rw [h, h']

set_option maxHeartbeats 400000 in
theorem unit_any (r : Int) (w : World) :
    Calls Yba.prog 4 #[.int .i32 r] w fun e w' => e = .returned (.tuple #[.int .i64 (uv r), .bool (ug r)]) ∧ w' = w := by
  by_cases h1 : r = 21313
  · subst h1
    go_enter Yba.func4, Yba.ntmps4
    go_wp2
    go_ret2
    exact ⟨ret2 (by decide) (by decide), rfl⟩
  by_cases h2 : r = 30334
  · subst h2
    go_enter Yba.func4, Yba.ntmps4
    go_wp2
    go_ret2
    exact ⟨ret2 (by decide) (by decide), rfl⟩
  by_cases h3 : r = 21315
  · subst h3
    go_enter Yba.func4, Yba.ntmps4
    go_wp2
    go_ret2
    exact ⟨ret2 (by decide) (by decide), rfl⟩
  by_cases h4 : r = 19975
  · subst h4
    go_enter Yba.func4, Yba.ntmps4
    go_wp2
    go_ret2
    exact ⟨ret2 (by decide) (by decide), rfl⟩
  by_cases h5 : r = 20159
  · subst h5
    go_enter Yba.func4, Yba.ntmps4
    go_wp2
    go_ret2
    exact ⟨ret2 (by decide) (by decide), rfl⟩
  have e1 : (r == 21313) = false := beq_eq_false_iff_ne.2 h1
  have e2 : (r == 30334) = false := beq_eq_false_iff_ne.2 h2
  have e3 : (r == 21315) = false := beq_eq_false_iff_ne.2 h3
  have e4 : (r == 19975) = false := beq_eq_false_iff_ne.2 h4
  have e5 : (r == 20159) = false := beq_eq_false_iff_ne.2 h5
  have hv : uv r = 0 := by simp [uv, h1, h2, h3, h4, h5]
  have hg : ug r = false := by simp [ug, h4, h5]
  rw [hv, hg]
  clear h1 h2 h3 h4 h5 hv hg
  go_enter Yba.func4, Yba.ntmps4
  go_wp2
  go_ret2
  exact ⟨rfl, rfl⟩

set_option maxHeartbeats 1000000 in
theorem model_any (r : Int) (w : World) :
    Calls Yba.prog 5 #[.int .i32 r] w fun e w' => e = .returned (.tuple #[.int .i64 (uv r), .bool (ug r)]) ∧ w' = (w.alloc (.cells #[.int .i32 21313, .int .i32 30334, .int .i32 21315, .int .i32 19975, .int .i32 20159] 26)).alloc (.cells #[.int .i64 10, .int .i64 100, .int .i64 1000, .int .i64 10000, .int .i64 100000000] 27) := by
  go_enter Yba.func5, Yba.ntmps5
  go_wp2
  go_loop [6] (fun i => ∃ k : Nat, k ≤ 5 ∧ i = .int .i64 k ∧ (0 < k → r ≠ 21313) ∧ (1 < k → r ≠ 30334) ∧ (2 < k → r ≠ 21315) ∧ (3 < k → r ≠ 19975) ∧ (4 < k → r ≠ 20159)) (fun i => 5 - (intOf i).toNat)
  case atStart => exact ⟨0, by omega, rfl, by omega, by omega, by omega, by omega, by omega⟩
  case round =>
    obtain ⟨k, hk, rfl, n1, n2, n3, n4, n5⟩ := hrel
    have N : Hid ((0 < k → r ≠ 21313) ∧ (1 < k → r ≠ 30334) ∧ (2 < k → r ≠ 21315) ∧ (3 < k → r ≠ 19975) ∧ (4 < k → r ≠ 20159)) := ⟨n1, n2, n3, n4, n5⟩
    clear n1 n2 n3 n4 n5
    rcases (by omega : k = 0 ∨ k = 1 ∨ k = 2 ∨ k = 3 ∨ k = 4 ∨ k = 5) with rfl | rfl | rfl | rfl | rfl | rfl
    · go_wp2
      · have h : (21313 == r) = true := by assumption
        have e : r = 21313 := (beq_iff_eq.1 h).symm
        go_ret2
        exact ⟨ret2 (by rw [e]; decide) (by rw [e]; decide), rfl⟩
      · have h : (21313 == r) = false := by assumption
        have e : r ≠ 21313 := fun e => by rw [e] at h; exact absurd h (by decide)
        have N' := N.out
        go_round
        case rel => exact ⟨1, by omega, rfl, by omega, by omega, by omega, by omega, by omega⟩
        case measure => simp [intOf]
    · go_wp2
      · have h : (30334 == r) = true := by assumption
        have e : r = 30334 := (beq_iff_eq.1 h).symm
        go_ret2
        exact ⟨ret2 (by rw [e]; decide) (by rw [e]; decide), rfl⟩
      · have h : (30334 == r) = false := by assumption
        have e : r ≠ 30334 := fun e => by rw [e] at h; exact absurd h (by decide)
        have N' := N.out
        go_round
        case rel => exact ⟨2, by omega, rfl, by omega, by omega, by omega, by omega, by omega⟩
        case measure => simp [intOf]
    · go_wp2
      · have h : (21315 == r) = true := by assumption
        have e : r = 21315 := (beq_iff_eq.1 h).symm
        go_ret2
        exact ⟨ret2 (by rw [e]; decide) (by rw [e]; decide), rfl⟩
      · have h : (21315 == r) = false := by assumption
        have e : r ≠ 21315 := fun e => by rw [e] at h; exact absurd h (by decide)
        have N' := N.out
        go_round
        case rel => exact ⟨3, by omega, rfl, by omega, by omega, by omega, by omega, by omega⟩
        case measure => simp [intOf]
    · go_wp2
      · have h : (19975 == r) = true := by assumption
        have e : r = 19975 := (beq_iff_eq.1 h).symm
        go_ret2
        exact ⟨ret2 (by rw [e]; decide) (by rw [e]; decide), rfl⟩
      · have h : (19975 == r) = false := by assumption
        have e : r ≠ 19975 := fun e => by rw [e] at h; exact absurd h (by decide)
        have N' := N.out
        go_round
        case rel => exact ⟨4, by omega, rfl, by omega, by omega, by omega, by omega, by omega⟩
        case measure => simp [intOf]
    · go_wp2
      · have h : (20159 == r) = true := by assumption
        have e : r = 20159 := (beq_iff_eq.1 h).symm
        go_ret2
        exact ⟨ret2 (by rw [e]; decide) (by rw [e]; decide), rfl⟩
      · have h : (20159 == r) = false := by assumption
        have e : r ≠ 20159 := fun e => by rw [e] at h; exact absurd h (by decide)
        have N' := N.out
        go_round
        case rel => exact ⟨5, by omega, rfl, by omega, by omega, by omega, by omega, by omega⟩
        case measure => simp [intOf]
    · obtain ⟨n1, n2, n3, n4, n5⟩ := N.out
      have hv : uv r = 0 := by simp [uv, n1 (by omega), n2 (by omega), n3 (by omega), n4 (by omega), n5 (by omega)]
      have hg : ug r = false := by simp [ug, n4 (by omega), n5 (by omega)]
      have Hv : Hid (0 = uv r) := hv.symm
      have Hg : Hid (false = ug r) := hg.symm
      clear n1 n2 n3 n4 n5 hv hg
      go_wp2
      go_ret2
      exact ⟨ret2 Hv.out Hg.out, rfl⟩
end Go.Proofs.Ybulkcfuo
