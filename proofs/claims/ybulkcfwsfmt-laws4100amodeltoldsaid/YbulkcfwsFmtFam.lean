import Derived.Test.YbulkcfwsFmtOfficeAt
namespace Go.Proofs.YbulkcfwsFmt
open Go.RowKit

set_option maxHeartbeats 1000000 in
theorem indexG_any (b off n cap : Nat) (S : Nat → ByteArray) (P : Nat → Bool) (c1 : Value) (w : World) (hn : n ≤ 100000000) (hb : b < w.heap.size)
    (hc : ∀ j, j < n → w.cell? ⟨b, off + j, none⟩ = some (.string (S j)))
    (hf : Hid (∀ j, j < n → ∀ W, Below w.heap.size w W → Calls Ybaf.prog 42 #[.string (S j), c1] W fun e w' => e = .returned (.bool (P j)) ∧ Below W.heap.size W w')) :
    Calls Ybaf.prog 48 #[.slice (some ⟨b, off, none⟩) n cap, .func (.func 42) #[] #[c1]] w fun e w' => (∃ k : Int, e = .returned (.int .i64 k) ∧ decide (0 ≤ k) = (List.range n).any P) ∧ Below w.heap.size w w' := by
  go_enter Ybaf.func48, Ybaf.ntmps48
  go_wp2
  go_loopw [8] (fun i wr => ∃ k : Nat, k ≤ n ∧ i = .int .i64 k ∧ Hid ((List.range k).any P = false) ∧ Below w.heap.size w wr) (fun i _ => n - (intOf i).toNat)
  case atStart => exact ⟨0, Nat.zero_le _, rfl, rfl, Below.refl _ _⟩
  case round =>
    obtain ⟨k, hk, rfl, hno, hbl⟩ := hrel
    have HB : Hid (Below w.heap.size w wr) := hbl
    by_cases hlt : k < n
    · have hcell := (hbl.cell (p := ⟨b, off + k, none⟩) hb).trans (hc k hlt)
      clear hbl
      go_wp2_with fail
      refine (hf.out k hlt _ HB.out).mono ?_
      rintro e w1 ⟨rfl, hb1⟩
      have HB1 : Hid (Below w.heap.size w w1) := HB.out.trans (hb1.mono HB.out.size)
      clear hb1
      cases hP : P k
      · go_wp2_with fail
        go_roundw
        case rel => exact ⟨k + 1, by omega, by go_num, by show Hid _; refine (?_ : _ = _); rw [List.range_succ, List.any_append, hno.out]; simp [hP], HB1.out⟩
        case measure => simp [intOf]; omega
      · go_wp2_with fail
        go_ret
        refine ⟨⟨k, rfl, ?_⟩, HB1.out⟩
        rw [List.any_eq_true.2 ⟨k, List.mem_range.2 hlt, hP⟩]
        simp
    · clear hbl
      go_wp2
      go_ret
      have : k = n := by omega
      exact ⟨⟨-1, rfl, by rw [← this, hno.out]; rfl⟩, HB.out⟩

set_option maxHeartbeats 1000000 in
theorem indexG_none (a : Option Addr) (cap : Nat) (f : Value) (w : World) :
    Calls Ybaf.prog 48 #[.slice a (0 : Nat) cap, f] w fun e w' => e = .returned (.int .i64 (-1)) ∧ w' = w := by
  go_enter Ybaf.func48, Ybaf.ntmps48
  go_wp2
  refine wp_loop_rounds 1 ?_
  rw [rounds_succ]
  go_wp2
  go_ret
  exact ⟨rfl, rfl⟩

set_option maxHeartbeats 1000000 in
theorem containsG_any {ok : Nat → Prop} (v : Value) (xs : List Nat) (P : Nat → Bool) (c1 : Value) (w : World) (h : Strs ok w v (xs.map nameOf)) (hn : xs.length ≤ 100000000)
    (hf : Hid (∀ x, x ∈ xs → ∀ W, Below w.heap.size w W → Calls Ybaf.prog 42 #[.string (nameOf x), c1] W fun e w' => e = .returned (.bool (P x)) ∧ Below W.heap.size W w')) :
    Calls Ybaf.prog 40 #[v, .func (.func 42) #[] #[c1]] w fun e w' => e = .returned (.bool (xs.any P)) ∧ Below w.heap.size w w' := by
  rw [← any_range xs P]
  obtain ⟨-, a, cap, rfl, -, h⟩ := h
  have hI : Calls Ybaf.prog 48 #[.slice a (xs.map nameOf).length cap, .func (.func 42) #[] #[c1]] w fun e w' => (∃ k : Int, e = .returned (.int .i64 k) ∧ decide (0 ≤ k) = (List.range xs.length).any fun j => P (xs.getD j default)) ∧ Below w.heap.size w w' := by
    have hl : (xs.map nameOf).length = xs.length := by simp
    rcases h with h | ⟨b, off, rfl, _, hb, hc⟩
    · rw [h]
      rw [hl] at h
      refine (indexG_none a cap _ w).mono ?_
      rintro e w' ⟨rfl, rfl⟩
      exact ⟨⟨-1, rfl, by simp [h]⟩, Below.refl _ _⟩
    · rw [hl]
      refine indexG_any b off xs.length cap (fun j => nameOf (xs.getD j default)) (fun j => P (xs.getD j default)) c1 w hn hb (fun j hj => hc j _ (by simp [List.getD, List.getElem?_eq_getElem hj])) ?_
      intro j hj W hW
      exact hf.out _ (by simp [List.getD, List.getElem?_eq_getElem hj]) W hW
  clear h hf
  generalize (xs.map nameOf).length = ln at *
  generalize (List.range xs.length).any (fun j => P (xs.getD j default)) = r at *
  go_enter Ybaf.func40, Ybaf.ntmps40
  go_wp2_with fail
  refine hI.mono ?_
  rintro e w' ⟨⟨k, rfl, hk⟩, hb⟩
  have HB : Hid (Below w.heap.size w w') := hb
  clear hb
  go_wp2_with fail
  go_ret
  exact ⟨by simp [← hk], HB.out⟩


set_option maxHeartbeats 1000000 in
theorem family1_any {ok : Nat → Prop} (p b1 : Nat) (ov : Value) (ps : List Nat) (w : World) (hp : p < 7) (ho : Strs ok w ov (ps.map nameOf)) (hol : ps.length ≤ 1000000) (hoq : ∀ q ∈ ps, q < 7)
    (k1 : w.cell? ⟨b1, 0, none⟩ = some ov) :
    Calls Ybaf.prog 42 #[.string (nameOf p), .pointer (some ⟨b1, 0, none⟩)] w fun e w' => e = .returned (.bool (ps.any fun q => p == q)) ∧ Below w.heap.size w w' := by
  have hC : Calls Ybaf.prog 26 #[ov, .string (nameOf p)] w fun e w' => e = .returned (.bool (ps.any fun q => p == q)) ∧ w' = w := by
    rw [← any_names p (by omega) ps hoq]
    exact containsS_any ov _ _ w ho (by simp; omega)
  generalize nameOf p = s at *
  generalize ps.any (fun q => p == q) = r at *
  obtain ⟨oa, oc, rfl⟩ := Strs.formN ho
  clear ho
  go_enter Ybaf.func42, Ybaf.ntmps42
  go_wp2_with fail
  refine hC.mono ?_
  rintro e w' ⟨rfl, rfl⟩
  go_wp2_with fail
  go_ret
  exact ⟨rfl, Below.refl _ _⟩
end Go.Proofs.YbulkcfwsFmt
