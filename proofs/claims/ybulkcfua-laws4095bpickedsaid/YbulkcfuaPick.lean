import Derived.Test.YbulkcfuaCheck
namespace Go.Proofs.Ybulkcfua
open Go.RowKit

set_option maxHeartbeats 400000 in
theorem name_any (x : Int) (w : World) (h0 : 0 ≤ x) (h1 : x ≤ 255) :
    Calls Yba.prog 6 #[.int .u8 x] w fun e w' => (∃ s, e = .returned (.string s)) ∧ w' = w := by
  go_enter Yba.func6, Yba.ntmps6
  go_wp2
  all_goals
    go_ret
    exact ⟨⟨_, rfl⟩, rfl⟩

theorem cellsOf_snoc (k : Nat) (S : Nat → ByteArray) (s : ByteArray) : ∃ S', cellsOf k S ++ [.string s] = cellsOf (k + 1) S' := by
  refine ⟨fun j => if j < k then S j else s, ?_⟩
  unfold cellsOf
  rw [List.range_succ, List.map_append]
  congr 1
  · refine List.map_congr_left fun j hj => ?_
    simp only [if_pos (List.mem_range.1 hj)]
  · simp

/-- A slice of bytes that came in. -/
def Bytes (w : World) (a : Option Addr) (len : Nat) (Z : Nat → Int) : Prop :=
  (∀ j, 0 ≤ Z j ∧ Z j ≤ 255) ∧ (len = 0 ∨ ∃ b off, a = some ⟨b, off, none⟩ ∧ b < w.heap.size ∧ ∀ j, j < len → w.cell? ⟨b, off + j, none⟩ = some (.int .u8 (Z j)))

theorem one_new (w : World) (s : ByteArray) : ∀ j u, [Value.string s][j]? = some u → (w.alloc (.cells #[.string s] 9)).cell? ((⟨w.heap.size, 0, none⟩ : Addr).add j) = some u := by
  intro j u hj
  match j, hj with
  | 0, hj => simp at hj; subst hj; simp [Addr.add]

set_option maxHeartbeats 1000000 in
set_option maxRecDepth 100000 in
theorem picked_any (a0 : Option Addr) (n cap0 : Nat) (Z0 : Nat → Int) (a1 : Option Addr) (m cap1 : Nat) (Z1 : Nat → Int) (w : World) (w0 : Bytes w a0 n Z0) (w1 : Bytes w a1 m Z1) (hn : n ≤ 1024) (hm : m ≤ 1024) :
    Calls Yba.prog 4 #[.slice a0 n cap0, .slice a1 m cap1] w fun e w' => e = .returned (.bool true) ∧ Below w.heap.size w w' := by
  obtain ⟨i0, hi, hz0, hz1, hz2⟩ := info_parts info9
  obtain ⟨hZ0, hc0⟩ := w0
  obtain ⟨hZ1, hc1⟩ := w1
  go_enter Yba.func4, Yba.ntmps4
  go_wp2_with (at_make; refine wpList_make_own _ rfl _ _ 22 rfl w.heap.size 9 i0 (.string { data := #[] }) 1 Yba.underlying22 hi hz0 hz1 _ _ _ n rfl rfl (by omega) ?b2 ?b3 ?b4 ?_)
  case b2 => rw [hz2]; omega
  case b3 => unfold maxLen; omega
  case b4 => exact Nat.le_refl _
  intro wa hown hgrow
  have hba : Below w.heap.size w wa := (Below.refl _ w).grown hgrow (Nat.le_refl _) (by intro k hk; cases hk)
  clear hgrow
  go_wp2
  go_loopw [5, 6] (fun v i wr => ∃ (k : Nat) (S : Nat → ByteArray), k ≤ n ∧ i = .int .i64 k ∧ wr.ownsRow w.heap.size 9 1 v k (cellsOf k S) ∧ Below w.heap.size w wr) (fun _ i _ => n - (intOf i).toNat)
  case atStart => exact ⟨0, fun _ => ByteArray.empty, Nat.zero_le _, rfl, hown, hba⟩
  case round =>
    clear hown hba
    obtain ⟨k, S, hk, rfl, hown, hb⟩ := hrel
    by_cases hlt : k < n
    · obtain ⟨b, off, rfl, hbl, hc⟩ : ∃ b off, a0 = some ⟨b, off, none⟩ ∧ b < w.heap.size ∧ ∀ j, j < n → w.cell? ⟨b, off + j, none⟩ = some (.int .u8 (Z0 j)) := by
        rcases hc0 with h0 | h
        · omega
        · exact h
      have hcell : wr.cell? ⟨b, off + k, none⟩ = some (.int .u8 (Z0 k)) := (hb.cell (by exact hbl)).trans (hc k hlt)
      obtain ⟨hz_0, hz_1⟩ := hZ0 k
      clear hc
      go_wp2_with fail
      refine (name_any _ _ hz_0 hz_1).mono ?_
      rintro e w' ⟨⟨s, rfl⟩, rfl⟩
      go_wp2_with (at_builtin; refine wpList_append_own _ rfl _ _ 22 rfl w.heap.size 9 i0 (.string { data := #[] }) 1 16 Yba.underlying22 hi hz0 hz1 hz2 rfl (by decide) _ _ _ rfl (hown.alloc _) ⟨w'.heap.size, 0, none⟩ 1 1 [.string s] rfl rfl ?c1 ?c2 ?c3 ?c4 ?c5 ?_)
      case c1 => exact one_new _ _
      case c2 => intro u hu; simp at hu; subst hu; rfl
      case c3 => unfold maxLen; omega
      case c4 => omega
      case c5 => have := hb.size; simp; omega
      intro v' w2 hown' hgrow' _
      obtain ⟨S', hS'⟩ := cellsOf_snoc k S s
      rw [hS'] at hown'
      have hb2 : Below w.heap.size w w2 := (hb.alloc hb.size _).grown hgrow' (by have := hb.size; simp; omega) (fun j hj => (hown.lt j hj).1)
      clear hgrow' hb hown hS'
      go_wp2
      first
        | (go_roundw
           case rel => exact ⟨k + 1, S', by omega, by go_num, hown', hb2⟩
           case measure => simp [intOf]; omega)
    · have hkn : k = n := by omega
      subst hkn
      have hg := strs_of_owns hn hown
      obtain ⟨ga, gcap, rfl, -⟩ := hg.shape
      have hbs := hb.size
      clear hown hc0 hZ0
      go_wp2_with (at_make; refine wpList_make_own _ rfl _ _ 22 rfl wr.heap.size 9 i0 (.string { data := #[] }) 1 Yba.underlying22 hi hz0 hz1 _ _ _ m rfl rfl (by omega) ?d2 ?d3 ?d4 ?_)
      case d2 => rw [hz2]; omega
      case d3 => unfold maxLen; omega
      case d4 => exact Nat.le_refl _
      intro wa' hown' hgrow'
      have hbb : Below wr.heap.size wr wa' := (Below.refl _ wr).grown hgrow' (Nat.le_refl _) (by intro k hk; cases hk)
      clear hgrow'
      go_wp2
      go_loopw [7, 8] (fun v i wx => ∃ (k' : Nat) (S' : Nat → ByteArray), k' ≤ m ∧ i = .int .i64 k' ∧ wx.ownsRow wr.heap.size 9 1 v k' (cellsOf k' S') ∧ Below wr.heap.size wr wx) (fun _ i _ => m - (intOf i).toNat)
      case atStart => exact ⟨0, fun _ => ByteArray.empty, Nat.zero_le _, rfl, hown', hbb⟩
      case round =>
        clear hown' hbb
        rename World => wx
        obtain ⟨k', S', hk', rfl, hown', hbx⟩ := hrel
        by_cases hlt' : k' < m
        · obtain ⟨b, off, rfl, hbl, hc⟩ : ∃ b off, a1 = some ⟨b, off, none⟩ ∧ b < w.heap.size ∧ ∀ j, j < m → w.cell? ⟨b, off + j, none⟩ = some (.int .u8 (Z1 j)) := by
            rcases hc1 with h0 | h
            · omega
            · exact h
          have hcell : wx.cell? ⟨b, off + k', none⟩ = some (.int .u8 (Z1 k')) := ((hbx.cell (by show b < _; omega)).trans (hb.cell (by exact hbl))).trans (hc k' hlt')
          obtain ⟨hz_0, hz_1⟩ := hZ1 k'
          clear hc hc1
          go_wp2_with fail
          refine (name_any _ _ hz_0 hz_1).mono ?_
          rintro e w' ⟨⟨s, rfl⟩, rfl⟩
          go_wp2_with (at_builtin; refine wpList_append_own _ rfl _ _ 22 rfl wr.heap.size 9 i0 (.string { data := #[] }) 1 16 Yba.underlying22 hi hz0 hz1 hz2 rfl (by decide) _ _ _ rfl (hown'.alloc _) ⟨w'.heap.size, 0, none⟩ 1 1 [.string s] rfl rfl ?c1 ?c2 ?c3 ?c4 ?c5 ?_)
          case c1 => exact one_new _ _
          case c2 => intro u hu; simp at hu; subst hu; rfl
          case c3 => unfold maxLen; omega
          case c4 => omega
          case c5 => have := hbx.size; simp; omega
          intro v' w2 hown2 hgrow2 _
          obtain ⟨S2, hS2⟩ := cellsOf_snoc k' S' s
          rw [hS2] at hown2
          have hb2 : Below wr.heap.size wr w2 := (hbx.alloc hbx.size _).grown hgrow2 (by have := hbx.size; simp; omega) (fun j hj => (hown'.lt j hj).1)
          clear hgrow2 hbx hown' hS2
          go_wp2
          go_roundw
          case rel => exact ⟨k' + 1, S2, by omega, by go_num, hown2, hb2⟩
          case measure => simp [intOf]; omega
        · have hkm : k' = m := by omega
          subst hkm
          have hf := strs_of_owns hm hown'
          have hg' := (hg.below hbx (Nat.le_refl _)).up hbx.size
          obtain ⟨fa, fcap, rfl, -⟩ := hf.shape
          have hC := check_any _ _ _ _ _ _ _ hg' hf
          have hbw : Below w.heap.size w wx := hb.trans (hbx.mono hbs)
          have hsz := hbw.size
          clear hown' hc1 hZ1 hg hf hg' hb hbx
          go_wp2_with (go_at_call 5; refine hC.mono ?_; rintro e w' ⟨rfl, hbz⟩)
          go_ret
          exact ⟨rfl, hbw.trans (hbz.mono hsz)⟩
end Go.Proofs.Ybulkcfua
