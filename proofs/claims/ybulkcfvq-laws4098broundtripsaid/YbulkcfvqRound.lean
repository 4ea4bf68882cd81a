import Derived.Test.YbulkcfvqTrip
import Derived.Lib.Walk
import Derived.Lib.SliceRun
namespace Go.Proofs.Ybulkcfvq
open Go.RowKit

theorem Grown_cell {w w' : World} (h : Grown w w') {a : Addr} {v : Value} (hc : w.cell? a = some v) : w'.cell? a = some v := by
  have hb := World.block_lt_of_cell? _ _ hc
  have x := h.1.2.2 a.block hb
  unfold World.cell? at hc ⊢
  cases ha : w.heap[a.block]? with
  | none => rw [ha] at hc; cases hc
  | some o =>
    cases o with
    | cells c t fr =>
      rw [ha] at hc x
      cases hb' : w'.heap[a.block]? with
      | none => rw [hb'] at x; cases x
      | some o' =>
        cases o' with
        | cells c' t' fr' =>
          rw [hb'] at x
          simp only at hc x ⊢
          by_cases hs : a.spot.isSome
          · rw [if_pos hs] at hc; cases hc
          · rw [if_neg hs] at hc ⊢
            rw [x.2.2.2 a.off (fun f => f)]; exact hc
        | _ => rw [hb'] at x; cases x
    | _ => rw [ha] at hc; cases hc

theorem Grown_trans {a b c : World} (h : Grown a b) (k : Grown b c) : Grown a c :=
  ⟨World.keptBut_trans h.1 k.1, fun x => (k.2.1 x).trans (h.2.1 x), Nat.le_trans h.2.2 k.2.2⟩

theorem cE (a : ByteArray) : decide (0 < eE (!a.toList.isEmpty) a) = !a.toList.isEmpty := by
  unfold eE
  rw [pE_size]
  cases h : !a.toList.isEmpty <;> simp

theorem parts_built (a0 a1 a2 a3 a4 a5 : ByteArray) (w : World) (h0 : a0.size ≤ 4096) (h1 : a1.size ≤ 4096) (h2 : a2.size ≤ 4096) (h3 : a3.size ≤ 4096) (h4 : a4.size ≤ 4096) (h5 : a5.size ≤ 4096) :
    Calls Yba.prog 9 #[built (!a0.toList.isEmpty) (!a3.toList.isEmpty) (!a4.toList.isEmpty) (!a5.toList.isEmpty) a0 a1 a2 a3 a4 a5] w fun e w' => e = .returned (.agg #[.string a0, .string a1, .string a2, .string a3, .string a4, .string a5]) ∧ Grown w w' := by
  have c0 := cE a0
  generalize hc0 : (!a0.toList.isEmpty) = b0 at *
  generalize hc3 : (!a3.toList.isEmpty) = b3 at *
  generalize hc4 : (!a4.toList.isEmpty) = b4 at *
  generalize hc5 : (!a5.toList.isEmpty) = b5 at *
  rw [built_eq]
  have sE := pE_size b0 a0
  have sP := pP_size b3 a3
  have sD := pD_size b4 a4
  have sL := pL_size b5 a5
  have hsz := text_size b0 b3 b4 b5 a0 a1 a2 a3 a4 a5
  have kP : ePr b0 a0 a1 a2 < ePo b0 b3 a0 a1 a2 a3 ↔ b3 = true := by unfold ePo; rw [sP]; cases b3 <;> simp <;> omega
  have kD : ePo b0 b3 a0 a1 a2 a3 < eD b0 b3 b4 a0 a1 a2 a3 a4 ↔ b4 = true := by unfold eD; rw [sD]; cases b4 <;> simp <;> omega
  have kL : eD b0 b3 b4 a0 a1 a2 a3 a4 < (text b0 b3 b4 b5 a0 a1 a2 a3 a4 a5).size ↔ b5 = true := by rw [hsz, sL]; cases b5 <;> simp <;> omega
  have e0 : pick (decide (0 < eE b0 a0)) ((text b0 b3 b4 b5 a0 a1 a2 a3 a4 a5).extract 0 (eE b0 a0 - 1)) = a0 := by
    rw [c0]
    cases b0 with
    | true => rw [pick_true rfl, got0 true b3 b4 b5 a0 a1 a2 a3 a4 a5 rfl]
    | false => rw [pick_false rfl, ba_empty hc0]
  have e3 : pick (decide (ePr b0 a0 a1 a2 < ePo b0 b3 a0 a1 a2 a3)) ((text b0 b3 b4 b5 a0 a1 a2 a3 a4 a5).extract (ePr b0 a0 a1 a2 + 5) (ePo b0 b3 a0 a1 a2 a3)) = a3 := by
    cases b3 with
    | true => rw [pick_true (decide_eq_true (kP.2 rfl)), got3 b0 true b4 b5 a0 a1 a2 a3 a4 a5 rfl]
    | false => rw [pick_false (decide_eq_false fun h => by cases kP.1 h), ba_empty hc3]
  have e4 : pick (decide (ePo b0 b3 a0 a1 a2 a3 < eD b0 b3 b4 a0 a1 a2 a3 a4)) ((text b0 b3 b4 b5 a0 a1 a2 a3 a4 a5).extract (ePo b0 b3 a0 a1 a2 a3 + 4) (eD b0 b3 b4 a0 a1 a2 a3 a4)) = a4 := by
    cases b4 with
    | true => rw [pick_true (decide_eq_true (kD.2 rfl)), got4 b0 b3 true b5 a0 a1 a2 a3 a4 a5 rfl]
    | false => rw [pick_false (decide_eq_false fun h => by cases kD.1 h), ba_empty hc4]
  have e5 : pick (decide (eD b0 b3 b4 a0 a1 a2 a3 a4 < (text b0 b3 b4 b5 a0 a1 a2 a3 a4 a5).size)) ((text b0 b3 b4 b5 a0 a1 a2 a3 a4 a5).extract (eD b0 b3 b4 a0 a1 a2 a3 a4 + 1) (text b0 b3 b4 b5 a0 a1 a2 a3 a4 a5).size) = a5 := by
    cases b5 with
    | true => rw [pick_true (decide_eq_true (kL.2 rfl)), got5 b0 b3 b4 true a0 a1 a2 a3 a4 a5 rfl]
    | false => rw [pick_false (decide_eq_false fun h => by cases kL.1 h), ba_empty hc5]
  have hbE : (pE b0 a0).size ≤ 4097 := by rw [sE]; cases b0 <;> simp <;> omega
  have hbP : (pP b3 a3).size ≤ 5000 ∧ ((pP b3 a3).size = 0 ∨ 5 ≤ (pP b3 a3).size) := by rw [sP]; cases b3 <;> simp <;> omega
  have hbD : (pD b4 a4).size ≤ 5000 ∧ ((pD b4 a4).size = 0 ∨ 4 ≤ (pD b4 a4).size) := by rw [sD]; cases b4 <;> simp <;> omega
  have hbL : (pL b5 a5).size ≤ 5000 := by rw [sL]; cases b5 <;> simp <;> omega
  refine (pyParts_any (text b0 b3 b4 b5 a0 a1 a2 a3 a4 a5) (eE b0 a0) (eR b0 a0 a1) (ePr b0 a0 a1 a2) (ePo b0 b3 a0 a1 a2 a3) (eD b0 b3 b4 a0 a1 a2 a3 a4) w ?_ ?_ ?_ ?_ ?_ ?_ ?_ ?_).mono ?_
  · unfold eR; omega
  · unfold ePr; omega
  · unfold ePo; omega
  · unfold eD; omega
  · rw [hsz]; omega
  · unfold ePo; omega
  · unfold eD; omega
  · rw [hsz]; unfold eD ePo ePr eR eE; omega
  · rintro e w' ⟨rfl, hg⟩
    refine ⟨?_, hg⟩
    rw [e0, e3, e4, e5, got1, got2]

theorem built_shape (c0 c3 c4 c5 : Bool) (a0 a1 a2 a3 a4 a5 : ByteArray) : ∃ T n1 n2 n3 n4 n5, built c0 c3 c4 c5 a0 a1 a2 a3 a4 a5 = .agg #[.int .i64 4, .string T, .string { data := #[] }, .string { data := #[] }, .string { data := #[] }, .string { data := #[] },
    .int .i64 n1, .int .i64 n2, .int .i64 n3, .int .i64 n4, .int .i64 n5, .string { data := #[] }] := ⟨_, _, _, _, _, _, rfl⟩

set_option maxHeartbeats 1000000 in
theorem trip_any (a0 a1 a2 a3 a4 a5 : ByteArray) (w : World) (h0 : a0.size ≤ 4096) (h1 : a1.size ≤ 4096) (h2 : a2.size ≤ 4096) (h3 : a3.size ≤ 4096) (h4 : a4.size ≤ 4096) (h5 : a5.size ≤ 4096) :
    Calls Yba.prog 4 #[.string a0, .string a1, .string a2, .string a3, .string a4, .string a5] w fun e w' => e = .returned (.bool true) ∧ Grown w w' := by
  have hB := build_any a0 a1 a2 a3 a4 a5 w h0 h1 h2 h3 h4 h5
  have hP := fun w => parts_built a0 a1 a2 a3 a4 a5 w h0 h1 h2 h3 h4 h5
  obtain ⟨T, n1, n2, n3, n4, n5, hv⟩ := built_shape (!a0.toList.isEmpty) (!a3.toList.isEmpty) (!a4.toList.isEmpty) (!a5.toList.isEmpty) a0 a1 a2 a3 a4 a5
  rw [hv] at hB hP
  clear hv
  have HP : Hid (∀ w, Calls Yba.prog 9 #[.agg #[.int .i64 4, .string T, .string { data := #[] }, .string { data := #[] }, .string { data := #[] }, .string { data := #[] },
    .int .i64 n1, .int .i64 n2, .int .i64 n3, .int .i64 n4, .int .i64 n5, .string { data := #[] }]] w fun e w' => e = .returned (.agg #[.string a0, .string a1, .string a2, .string a3, .string a4, .string a5]) ∧ Grown w w') := hP
  clear hP
  go_enter Yba.func4, Yba.ntmps4
  go_wp2_with fail
  refine hB.mono ?_
  rintro e w1 ⟨rfl, o1, t1, o2, t2, rfl⟩
  go_wp2_with fail
  refine (HP.out _).mono ?_
  rintro e w3 ⟨rfl, hg⟩
  have hs : w.heap.size + 1 + 1 < w3.heap.size := by have := hg.2.2; simp at this; omega
  have hcT : ∀ o1 o2, ((w3.alloc o1).alloc o2).cell? ⟨w.heap.size + 1 + 1, 1, none⟩ = some (.string T) := by
    intro p1 p2
    refine Lib.cell?_alloc_some _ (Lib.cell?_alloc_some _ (Grown_cell hg ?_))
    go_simp
  have HG : Hid (Grown w w3) := Grown_trans (((((Grown.refl w).alloc _ _).alloc _ _).alloc _ _)) hg
  clear hg hB HP
  go_wp2_with fail
  go_ret
  exact ⟨rfl, (HG.out.alloc _ _).alloc _ _⟩
end Go.Proofs.Ybulkcfvq
