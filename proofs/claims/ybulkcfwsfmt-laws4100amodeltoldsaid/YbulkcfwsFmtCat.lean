import Derived.Test.YbulkcfwsFmtReg
import Derived.Maps.AppendAt
import Derived.Lib.AppendZerosOnto
namespace Go.Proofs.YbulkcfwsFmt
open Go.RowKit

theorem info119 : (Ybaf.prog.info? 119).map (fun i => (i.zero, i.size, i.bytes)) = some (some (Value.agg #[.slice none 0 0, .int .i64 0, .string ⟨#[]⟩, .string ⟨#[]⟩]), 4, 64) := by kernel_rfl
theorem info9 : (Ybaf.prog.info? 9).map (fun i => (i.zero, i.size, i.bytes)) = some (some (Value.string ⟨#[]⟩), 1, 16) := by kernel_rfl

theorem run_append_none (w : World) (base : Nat) (t ty e : TypeId) (i : TypeInfo) (size : Nat) (ht : Ybaf.prog.underlying t = some (.slice e)) (hi : Ybaf.prog.info? e = some i)
    (v : Value) (n c : Nat) (xs : List Value) (hown : w.ownsRow base e size v n xs) :
    (Builtin.append_ #[t, t] ty #[v, .slice none 0 c]).run Ybaf.prog w = .ok v w := by
  rcases hown.2 with ⟨rfl, rfl⟩ | ⟨g, cap, cur, rfl, _, _, hnc, _⟩
  · simp [Builtin.append_, run_underlying ht, sizeOf, typeInfo, hi, Builtin.lenOf, Builtin.firstCells]
  · simp [Builtin.append_, run_underlying ht, sizeOf, typeInfo, hi, Builtin.lenOf, Builtin.firstCells, hnc, storeCells]

theorem run_append_row {ok : Nat → Prop} (w : World) (base : Nat) (t ty e : TypeId) (i : TypeInfo) (z : Value) (size bytes : Nat) (ht : Ybaf.prog.underlying t = some (.slice e)) (hi : Ybaf.prog.info? e = some i) (hz : i.zero = some z)
    (hsize : i.size = size) (hby : i.bytes = bytes) (hzs : z.cells.size = size) (hsz : 0 < size)
    (v : Value) (n : Nat) (xs : List Value) (hown : w.ownsRow base e size v n xs) (u : Value) (m : Nat) (news : List Value) (hrow : Row ok w u m size news) (h1 : ∀ u ∈ news, u.oneCell' = true)
    (h63 : n + m ≤ maxLen) (hbytes : (n + m) * bytes ≤ 140737488355328) (hbase : base ≤ w.heap.size) :
    ∃ v' w', (Builtin.append_ #[t, t] ty #[v, u]).run Ybaf.prog w = .ok v' w' ∧ w'.ownsRow base e size v' (n + m) (xs ++ news) ∧ w.grownBy w' v.ownBlock ∧ (v'.ownBlock = v.ownBlock ∨ v'.ownBlock = some w.heap.size) := by
  obtain ⟨hl, a, cap, rfl, hcap, h⟩ := hrow
  have hgo : ∀ ad, a = some ad → (∀ j u, news[j]? = some u → w.cell? (ad.add j) = some u) → ∃ v' w', (Builtin.append_ #[t, t] ty #[v, .slice a m cap]).run Ybaf.prog w = .ok v' w' ∧ w'.ownsRow base e size v' (n + m) (xs ++ news) ∧ w.grownBy w' v.ownBlock ∧ (v'.ownBlock = v.ownBlock ∨ v'.ownBlock = some w.heap.size) := by
    rintro ad rfl hc
    obtain ⟨v', w', hr, ho, hg, _, hat⟩ := run_append_own_at (P := Ybaf.prog) w base t ty e i z size bytes ht hi hz hsize hby hzs hsz v n xs hown ad m cap news hl hc h1 h63 hbytes hbase
    exact ⟨v', w', hr, ho, hg, hat⟩
  rcases h with rfl | ⟨b, off, rfl, hok, hb, hc⟩
  · have hn : news = [] := List.eq_nil_of_length_eq_zero (by simpa using hl)
    subst hn
    cases a with
    | none => exact ⟨v, w, run_append_none w base t ty e i size ht hi v n cap xs hown, by simpa using hown, ⟨rfl, rfl, rfl, Nat.le_refl _, fun _ _ _ => rfl⟩, .inl rfl⟩
    | some ad => exact hgo ad rfl (fun j u hj => by simp at hj)
  · exact hgo _ rfl (fun j u hj => by
      by_cases hj0 : j = 0
      · subst hj0
        simpa [Addr.add] using hc 0 u hj
      · simpa [Addr.add, hj0] using hc j u hj)

set_option maxHeartbeats 1000000 in
theorem grow79_any (n : Nat) (w : World) (hn : 0 < n) (hm : n ≤ 1000000) :
    Calls Ybaf.prog 79 #[.slice none (0 : Nat) 0, .int .i64 n] w fun e w' => (∃ v', e = .returned v' ∧ w'.ownsRow w.heap.size 119 4 v' 0 []) ∧ Below w.heap.size w w' := by
  obtain ⟨i0, hi, hz0, hz1, hz2⟩ := info_parts info119
  have hold : (Builtin.firstCells i0.size 0 (.slice none (0 : Nat) 0)).run Ybaf.prog w.drew = .ok (([] : List Value)).toArray w.drew := run_firstCells_none w.drew i0.size 0 0 0
  have hrz : ∀ ty, (Builtin.append_ #[113, 3] ty #[.slice none (0 : Nat) 0, .int .i64 n]).run Ybaf.prog w = _ := fun ty => Lib.run_append_grow_zeros w 113 3 ty 119 i0 _ .i64 .i64 Ybaf.underlying113 Ybaf.underlying3 hi hz0 none 0 0 [] hold n hn (by omega) (by omega) (by omega) (by rw [hz2]; omega) (growslice_fits (by omega) (by rw [hz2]; omega))
  simp only [Nat.zero_add] at hrz
  have hGn : n ≤ grownCap w n 0 119 := grownCap_ge w _ _ _
  have hGm : grownCap w n 0 119 ≤ maxLen := grownCap_le_maxLen w n 0 119 (by unfold maxLen; omega)
  have hG63 : grownCap w n 0 119 ≤ 9223372036854775807 := by
    have := hGm
    unfold maxLen at this
    omega
  have hown : (w.drew.alloc (.cells (([] : List Value).toArray ++ Builtin.zeroCells (.agg #[.slice none 0 0, .int .i64 0, .string ⟨#[]⟩, .string ⟨#[]⟩] : Value).cells n ++ Builtin.zeroCells (.agg #[.slice none 0 0, .int .i64 0, .string ⟨#[]⟩, .string ⟨#[]⟩] : Value).cells (grownCap w n 0 119 - n)) 119)).ownsRow w.heap.size 119 4 (.slice (some ⟨w.heap.size, 0, none⟩) (0 : Nat) (grownCap w n 0 119)) 0 [] := by
    refine ⟨rfl, .inr ⟨w.heap.size, _, _, rfl, Nat.le_refl _, heap_alloc_new w.drew _, Nat.zero_le _, hGm, ?_, by simp⟩⟩
    simp only [Array.size_append, List.size_toArray, size_zeroCells, List.length_nil]
    show 0 + n * 4 + (grownCap w n 0 119 - n) * 4 = _
    omega
  have hbl : Below w.heap.size w (w.drew.alloc (.cells (([] : List Value).toArray ++ Builtin.zeroCells (.agg #[.slice none 0 0, .int .i64 0, .string ⟨#[]⟩, .string ⟨#[]⟩] : Value).cells n ++ Builtin.zeroCells (.agg #[.slice none 0 0, .int .i64 0, .string ⟨#[]⟩, .string ⟨#[]⟩] : Value).cells (grownCap w n 0 119 - n)) 119)) := ((Below.refl _ w).drew).alloc (Nat.le_refl _) _
  generalize w.drew.alloc (.cells (([] : List Value).toArray ++ Builtin.zeroCells (.agg #[.slice none 0 0, .int .i64 0, .string ⟨#[]⟩, .string ⟨#[]⟩] : Value).cells n ++ Builtin.zeroCells (.agg #[.slice none 0 0, .int .i64 0, .string ⟨#[]⟩, .string ⟨#[]⟩] : Value).cells (grownCap w n 0 119 - n)) 119) = W' at *
  generalize grownCap w n 0 119 = G at *
  have HO : Hid (W'.ownsRow w.heap.size 119 4 (.slice (some ⟨w.heap.size, 0, none⟩) (0 : Nat) G) 0 []) := hown
  have HB : Hid (Below w.heap.size w W') := hbl
  clear hown hold hbl
  have h1 : ¬ ((n : Int) < 0) := by omega
  have h4 : (n : Int) > 0 := by omega
  go_enter Ybaf.func79, Ybaf.ntmps79
  go_wp2_with (at_builtin; refine Lib.wpList_append_run _ rfl _ _ _ _ rfl _ _ rfl rfl _ _ (hrz _) ?_)
  go_ret
  exact ⟨⟨_, rfl, HO.out⟩, HB.out⟩

set_option maxRecDepth 100000 in
set_option maxHeartbeats 2000000 in
theorem cat61_any {ok : Nat → Prop} (b n1 n2 cap : Nat) (v1 v2 : Value) (c1 c2 : List Value) (w : World) (k1 : w.cell? ⟨b, 0, none⟩ = some v1) (k2 : w.cell? ⟨b, 1, none⟩ = some v2) (hb : b < w.heap.size)
    (h1 : Row ok w v1 n1 4 c1) (h2 : Row ok w v2 n2 4 c2) (hn : 0 < n1 + n2) (hs : n1 ≤ 100000) (hs2 : n2 ≤ 100000) (o1 : ∀ u ∈ c1, u.oneCell' = true) (o2 : ∀ u ∈ c2, u.oneCell' = true) :
    Calls Ybaf.prog 61 #[.slice (some ⟨b, 0, none⟩) (2 : Nat) cap] w fun e w' => (∃ v', e = .returned v' ∧ w'.ownsRow w.heap.size 119 4 v' (n1 + n2) (c1 ++ c2)) ∧ Below w.heap.size w w' := by
  obtain ⟨i0, hi, hz0, hz1, hz2⟩ := info_parts info119
  have H1 : Hid (Row ok w v1 n1 4 c1) := h1
  have H2 : Hid (Row ok w v2 n2 4 c2) := h2
  have O1 : Hid (∀ u ∈ c1, u.oneCell' = true) := o1
  have O2 : Hid (∀ u ∈ c2, u.oneCell' = true) := o2
  obtain ⟨a1, cap1, rfl⟩ := h1.form
  obtain ⟨a2, cap2, rfl⟩ := h2.form
  clear h1 h2 o1 o2
  have HG : Hid (∀ W, Calls Ybaf.prog 79 #[.slice none (0 : Nat) 0, .int .i64 ((n1 : Int) + (n2 : Int))] W fun e w' => (∃ v', e = .returned v' ∧ w'.ownsRow W.heap.size 119 4 v' 0 []) ∧ Below W.heap.size W w') := fun W => by
    have := grow79_any (n1 + n2) W hn (by omega)
    rwa [Int.natCast_add] at this
  go_enter Ybaf.func61, Ybaf.ntmps61
  go_wp2_with fail
  refine wp_loop_rounds 3 ?_
  rw [rounds_succ]
  go_wp2_with fail
  rw [rounds_succ]
  go_wp2_with fail
  rw [rounds_succ]
  go_wp2_with fail
  refine (HG.out w).mono ?_
  rintro e w1 ⟨⟨v0, rfl, hown0⟩, hb0⟩
  have q1 := (hb0.cell (p := ⟨b, 0, none⟩) hb).trans k1
  obtain ⟨va, wa, hra, howna, hga, -⟩ := run_append_row w1 w.heap.size 113 113 119 i0 _ 4 64 Ybaf.underlying113 hi hz0 hz1 hz2 rfl (by decide) v0 0 [] hown0 _ n1 c1 (H1.out.lift hb0) O1.out (by unfold maxLen; omega) (by omega) hb0.size
  have hba : Below w.heap.size w wa := hb0.grown hga hb0.size (fun k hk => (hown0.lt k hk).1)
  have q2 := (hba.cell (p := ⟨b, 1, none⟩) hb).trans k2
  obtain ⟨vb, wb, hrb, hownb, hgb, -⟩ := run_append_row wa w.heap.size 113 113 119 i0 _ 4 64 Ybaf.underlying113 hi hz0 hz1 hz2 rfl (by decide) va (0 + n1) ([] ++ c1) howna _ n2 c2 (H2.out.lift hba) O2.out (by unfold maxLen; omega) (by omega) hba.size
  have HB : Hid (Below w.heap.size w wb) := hba.grown hgb hba.size (fun k hk => (howna.lt k hk).1)
  have HO : Hid (wb.ownsRow w.heap.size 119 4 vb (n1 + n2) (c1 ++ c2)) := by
    simp only [Nat.zero_add, List.nil_append] at hownb
    exact hownb
  clear hown0 hb0 howna hga hba hownb hgb k1 k2
  go_wp2_with fail
  refine wp_loop_rounds 3 ?_
  rw [rounds_succ]
  go_wp2_with (at_builtin; refine Lib.wpList_append_run _ rfl _ _ _ _ rfl _ _ rfl rfl _ _ hra ?_)
  rw [rounds_succ]
  go_wp2_with (at_builtin; refine Lib.wpList_append_run _ rfl _ _ _ _ rfl _ _ rfl rfl _ _ hrb ?_)
  rw [rounds_succ]
  go_wp2_with fail
  go_ret
  exact ⟨⟨_, rfl, HO.out⟩, HB.out⟩

set_option maxHeartbeats 1000000 in
theorem grow45_any (n : Nat) (w : World) (hn : 0 < n) (hm : n ≤ 1000000) :
    Calls Ybaf.prog 45 #[.slice none (0 : Nat) 0, .int .i64 n] w fun e w' => (∃ v', e = .returned v' ∧ w'.ownsRow w.heap.size 9 1 v' 0 []) ∧ Below w.heap.size w w' := by
  obtain ⟨i0, hi, hz0, hz1, hz2⟩ := info_parts info9
  have hold : (Builtin.firstCells i0.size 0 (.slice none (0 : Nat) 0)).run Ybaf.prog w.drew = .ok (([] : List Value)).toArray w.drew := run_firstCells_none w.drew i0.size 0 0 0
  have hrz : ∀ ty, (Builtin.append_ #[47, 3] ty #[.slice none (0 : Nat) 0, .int .i64 n]).run Ybaf.prog w = _ := fun ty => Lib.run_append_grow_zeros w 47 3 ty 9 i0 _ .i64 .i64 Ybaf.underlying47 Ybaf.underlying3 hi hz0 none 0 0 [] hold n hn (by omega) (by omega) (by omega) (by rw [hz2]; omega) (growslice_fits (by omega) (by rw [hz2]; omega))
  simp only [Nat.zero_add] at hrz
  have hGn : n ≤ grownCap w n 0 9 := grownCap_ge w _ _ _
  have hGm : grownCap w n 0 9 ≤ maxLen := grownCap_le_maxLen w n 0 9 (by unfold maxLen; omega)
  have hG63 : grownCap w n 0 9 ≤ 9223372036854775807 := by
    have := hGm
    unfold maxLen at this
    omega
  have hown : (w.drew.alloc (.cells (([] : List Value).toArray ++ Builtin.zeroCells (.string ⟨#[]⟩ : Value).cells n ++ Builtin.zeroCells (.string ⟨#[]⟩ : Value).cells (grownCap w n 0 9 - n)) 9)).ownsRow w.heap.size 9 1 (.slice (some ⟨w.heap.size, 0, none⟩) (0 : Nat) (grownCap w n 0 9)) 0 [] := by
    refine ⟨rfl, .inr ⟨w.heap.size, _, _, rfl, Nat.le_refl _, heap_alloc_new w.drew _, Nat.zero_le _, hGm, ?_, by simp⟩⟩
    simp only [Array.size_append, List.size_toArray, size_zeroCells, List.length_nil]
    show 0 + n * 1 + (grownCap w n 0 9 - n) * 1 = _
    omega
  have hbl : Below w.heap.size w (w.drew.alloc (.cells (([] : List Value).toArray ++ Builtin.zeroCells (.string ⟨#[]⟩ : Value).cells n ++ Builtin.zeroCells (.string ⟨#[]⟩ : Value).cells (grownCap w n 0 9 - n)) 9)) := ((Below.refl _ w).drew).alloc (Nat.le_refl _) _
  generalize w.drew.alloc (.cells (([] : List Value).toArray ++ Builtin.zeroCells (.string ⟨#[]⟩ : Value).cells n ++ Builtin.zeroCells (.string ⟨#[]⟩ : Value).cells (grownCap w n 0 9 - n)) 9) = W' at *
  generalize grownCap w n 0 9 = G at *
  have HO : Hid (W'.ownsRow w.heap.size 9 1 (.slice (some ⟨w.heap.size, 0, none⟩) (0 : Nat) G) 0 []) := hown
  have HB : Hid (Below w.heap.size w W') := hbl
  clear hown hold hbl
  have h1 : ¬ ((n : Int) < 0) := by omega
  have h4 : (n : Int) > 0 := by omega
  go_enter Ybaf.func45, Ybaf.ntmps45
  go_wp2_with (at_builtin; refine Lib.wpList_append_run _ rfl _ _ _ _ rfl _ _ rfl rfl _ _ (hrz _) ?_)
  go_ret
  exact ⟨⟨_, rfl, HO.out⟩, HB.out⟩

set_option maxRecDepth 100000 in
set_option maxHeartbeats 2000000 in
theorem cat33_any {ok : Nat → Prop} (b n1 n2 cap : Nat) (v1 v2 : Value) (c1 c2 : List Value) (w : World) (k1 : w.cell? ⟨b, 0, none⟩ = some v1) (k2 : w.cell? ⟨b, 1, none⟩ = some v2) (hb : b < w.heap.size)
    (h1 : Row ok w v1 n1 1 c1) (h2 : Row ok w v2 n2 1 c2) (hn : 0 < n1 + n2) (hs : n1 ≤ 100000) (hs2 : n2 ≤ 100000) (o1 : ∀ u ∈ c1, u.oneCell' = true) (o2 : ∀ u ∈ c2, u.oneCell' = true) :
    Calls Ybaf.prog 33 #[.slice (some ⟨b, 0, none⟩) (2 : Nat) cap] w fun e w' => (∃ v', e = .returned v' ∧ w'.ownsRow w.heap.size 9 1 v' (n1 + n2) (c1 ++ c2)) ∧ Below w.heap.size w w' := by
  obtain ⟨i0, hi, hz0, hz1, hz2⟩ := info_parts info9
  have H1 : Hid (Row ok w v1 n1 1 c1) := h1
  have H2 : Hid (Row ok w v2 n2 1 c2) := h2
  have O1 : Hid (∀ u ∈ c1, u.oneCell' = true) := o1
  have O2 : Hid (∀ u ∈ c2, u.oneCell' = true) := o2
  obtain ⟨a1, cap1, rfl⟩ := h1.form
  obtain ⟨a2, cap2, rfl⟩ := h2.form
  clear h1 h2 o1 o2
  have HG : Hid (∀ W, Calls Ybaf.prog 45 #[.slice none (0 : Nat) 0, .int .i64 ((n1 : Int) + (n2 : Int))] W fun e w' => (∃ v', e = .returned v' ∧ w'.ownsRow W.heap.size 9 1 v' 0 []) ∧ Below W.heap.size W w') := fun W => by
    have := grow45_any (n1 + n2) W hn (by omega)
    rwa [Int.natCast_add] at this
  go_enter Ybaf.func33, Ybaf.ntmps33
  go_wp2_with fail
  refine wp_loop_rounds 3 ?_
  rw [rounds_succ]
  go_wp2_with fail
  rw [rounds_succ]
  go_wp2_with fail
  rw [rounds_succ]
  go_wp2_with fail
  refine (HG.out w).mono ?_
  rintro e w1 ⟨⟨v0, rfl, hown0⟩, hb0⟩
  have q1 := (hb0.cell (p := ⟨b, 0, none⟩) hb).trans k1
  obtain ⟨va, wa, hra, howna, hga, -⟩ := run_append_row w1 w.heap.size 47 47 9 i0 _ 1 16 Ybaf.underlying47 hi hz0 hz1 hz2 rfl (by decide) v0 0 [] hown0 _ n1 c1 (H1.out.lift hb0) O1.out (by unfold maxLen; omega) (by omega) hb0.size
  have hba : Below w.heap.size w wa := hb0.grown hga hb0.size (fun k hk => (hown0.lt k hk).1)
  have q2 := (hba.cell (p := ⟨b, 1, none⟩) hb).trans k2
  obtain ⟨vb, wb, hrb, hownb, hgb, -⟩ := run_append_row wa w.heap.size 47 47 9 i0 _ 1 16 Ybaf.underlying47 hi hz0 hz1 hz2 rfl (by decide) va (0 + n1) ([] ++ c1) howna _ n2 c2 (H2.out.lift hba) O2.out (by unfold maxLen; omega) (by omega) hba.size
  have HB : Hid (Below w.heap.size w wb) := hba.grown hgb hba.size (fun k hk => (howna.lt k hk).1)
  have HO : Hid (wb.ownsRow w.heap.size 9 1 vb (n1 + n2) (c1 ++ c2)) := by
    simp only [Nat.zero_add, List.nil_append] at hownb
    exact hownb
  clear hown0 hb0 howna hga hba hownb hgb k1 k2
  go_wp2_with fail
  refine wp_loop_rounds 3 ?_
  rw [rounds_succ]
  go_wp2_with (at_builtin; refine Lib.wpList_append_run _ rfl _ _ _ _ rfl _ _ rfl rfl _ _ hra ?_)
  rw [rounds_succ]
  go_wp2_with (at_builtin; refine Lib.wpList_append_run _ rfl _ _ _ _ rfl _ _ rfl rfl _ _ hrb ?_)
  rw [rounds_succ]
  go_wp2_with fail
  go_ret
  exact ⟨⟨_, rfl, HO.out⟩, HB.out⟩

end Go.Proofs.YbulkcfwsFmt
