import Derived.Test.YbulkcfwsFmtAdult
namespace Go.Proofs.YbulkcfwsFmt
open Go.RowKit

set_option maxHeartbeats 1000000 in
theorem indexF_any (b off n cap : Nat) (S : Nat → Int) (P : Nat → Bool) (c1 c2 c3 : Value) (w : World) (hn : n ≤ 1000000) (hb : b < w.heap.size)
    (hc : ∀ j, j < n → w.cell? ⟨b, off + j, none⟩ = some (.int .i64 (S j)))
    (hf : Hid (∀ j, j < n → ∀ W, Below w.heap.size w W → Calls Ybaf.prog 39 #[.int .i64 (S j), c1, c2, c3] W fun e w' => e = .returned (.bool (P j)) ∧ Below W.heap.size W w')) :
    Calls Ybaf.prog 47 #[.slice (some ⟨b, off, none⟩) n cap, .func (.func 39) #[] #[c1, c2, c3]] w fun e w' => (∃ k : Int, e = .returned (.int .i64 k) ∧ decide (0 ≤ k) = (List.range n).any P) ∧ Below w.heap.size w w' := by
  go_enter Ybaf.func47, Ybaf.ntmps47
  go_wp2
  go_loopw [8] (fun i wr => ∃ k : Nat, k ≤ n ∧ i = .int .i64 k ∧ Hid ((List.range k).any P = false) ∧ Below w.heap.size w wr) (fun i _ => n - (intOf i).toNat)
  case atStart => exact ⟨0, Nat.zero_le _, rfl, rfl, Below.refl _ _⟩
  case round =>
    obtain ⟨k, hk, rfl, hno, hbl⟩ := hrel
    have HB : Hid (Below w.heap.size w wr) := hbl
    by_cases hlt : k < n
    · have hcell := (hbl.cell (p := ⟨b, off + k, none⟩) hb).trans (hc k hlt)
      clear hbl
      go_wp2_with fail
      refine (hf.out k hlt _ HB.out).mono ?_
      rintro e w1 ⟨rfl, hb1⟩
      have HB1 : Hid (Below w.heap.size w w1) := HB.out.trans (hb1.mono HB.out.size)
      clear hb1
      cases hP : P k
      · go_wp2_with fail
        go_roundw
        case rel => exact ⟨k + 1, by omega, by go_num, by show Hid _; refine (?_ : _ = _); rw [List.range_succ, List.any_append, hno.out]; simp [hP], HB1.out⟩
        case measure => simp [intOf]; omega
      · go_wp2_with fail
        go_ret
        refine ⟨⟨k, rfl, ?_⟩, HB1.out⟩
        rw [List.any_eq_true.2 ⟨k, List.mem_range.2 hlt, hP⟩]
        simp
    · clear hbl
      go_wp2
      go_ret
      have : k = n := by omega
      exact ⟨⟨-1, rfl, by rw [← this, hno.out]; rfl⟩, HB.out⟩
end Go.Proofs.YbulkcfwsFmt
