import Derived.Test.YbulkcfuaClone
namespace Go.Proofs.Ybulkcfua
open Go.RowKit

/-- A slice of strings below B stays where nothing below B turns. -/
theorem Strs.below {w w' : World} {B B' : Nat} {v : Value} {n : Nat} {S : Nat → ByteArray} (h : Strs w B v n S) (hb : Below B' w w') (hB : B ≤ B') : Strs w' B v n S := by
  obtain ⟨a, cap, rfl, hn, h⟩ := h
  refine ⟨a, cap, rfl, hn, ?_⟩
  rcases h with h | ⟨b, off, rfl, hlt, hc⟩
  · exact .inl h
  · exact .inr ⟨b, off, rfl, hlt, fun j hj => by rw [hb.cell (p := ⟨b, off + j, none⟩) (Nat.lt_of_lt_of_le hlt hB)]; exact hc j hj⟩

theorem Strs.up {w : World} {B B' : Nat} {v : Value} {n : Nat} {S : Nat → ByteArray} (h : Strs w B v n S) (hB : B ≤ B') : Strs w B' v n S := by
  obtain ⟨a, cap, rfl, hn, h⟩ := h
  refine ⟨a, cap, rfl, hn, ?_⟩
  rcases h with h | ⟨b, off, rfl, hlt, hc⟩
  · exact .inl h
  · exact .inr ⟨b, off, rfl, Nat.lt_of_lt_of_le hlt hB, hc⟩

theorem beqc (a b : List UInt8) : (a == b) = (b == a) := by
  rw [Bool.eq_iff_iff, beq_iff_eq, beq_iff_eq]
  exact eq_comm

/-- What Require says, told of an error value 'ev' in a world 'w''. -/
def Told (n m : Nat) (S F : Nat → ByteArray) (k : Nat) (ev : Value) (w' : World) : Prop :=
  k = m ∧ ev = .nilIface ∨
  k < m ∧ hasB n S (F k) = false ∧ ∃ eb, ev = .iface 46 (.pointer (some ⟨eb, 0, none⟩)) ∧ w'.cell? ⟨eb, 0, none⟩ = some (.string (F k)) ∧ w'.cell? ⟨eb, 1, none⟩ = some (.string missing)

theorem require_abs (rb : Nat) (v : Value) (B n : Nat) (S : Nat → ByteArray) (fv : Value) (B' m : Nat) (F : Nat → ByteArray) (w : World) (h : Strs w B v n S) (hr : w.cell? ⟨rb, 45, none⟩ = some v) (hf : Strs w B' fv m F) :
    Calls Yba.prog 8 #[.pointer (some ⟨rb, 0, none⟩), fv] w fun e w' => ∃ k ev, e = .returned ev ∧ k ≤ m ∧ (∀ i, i < k → hasB n S (F i) = true) ∧ Told n m S F k ev w' ∧ Below w.heap.size w w' := by
  refine (require_any rb v B n S fv B' m F w h hr hf).mono ?_
  rintro e w' ⟨k, hk, hy, ⟨rfl, rfl, rfl⟩ | ⟨hlt, hno, rfl, rfl⟩⟩
  · exact ⟨k, _, rfl, hk, hy, .inl ⟨rfl, rfl⟩, Below.refl _ _⟩
  · exact ⟨k, _, rfl, hk, hy, .inr ⟨hlt, hno, _, rfl, by simp, by simp⟩, (Below.refl _ _).alloc (Nat.le_refl _) _⟩

theorem Strs.drewN {w : World} {B : Nat} {v : Value} {n : Nat} {S : Nat → ByteArray} (h : Strs w B v n S) (q : Nat) : Strs (w.drewN q) B v n S := h

theorem Strs.shape {w : World} {B : Nat} {v : Value} {n : Nat} {S : Nat → ByteArray} (h : Strs w B v n S) : ∃ a cap, v = .slice a n cap ∧ n ≤ 1024 := by
  obtain ⟨a, cap, rfl, hn, -⟩ := h
  exact ⟨a, cap, rfl, hn⟩

theorem assert_yes : ∀ (v : Value) (w : World), (Instr.typeAssert (.iface 46 v) 44 46 true).run Yba.prog w = .ok (.tuple #[v, .bool true]) w := fun v w => by kernel_rfl

theorem Below_drewN (B : Nat) (w : World) (q : Nat) : Below B w (w.drewN q) := ⟨rfl, rfl, rfl, Nat.le_refl _, fun _ _ => rfl⟩

set_option maxHeartbeats 1000000 in
theorem check_any (gv fv : Value) (n m : Nat) (S F : Nat → ByteArray) (w : World) (hg : Strs w w.heap.size gv n S) (hf : Strs w w.heap.size fv m F) :
    Calls Yba.prog 5 #[gv, fv] w fun e w' => e = .returned (.bool true) ∧ Below w.heap.size w w' := by
  go_enter Yba.func5, Yba.ntmps5
  go_wp2_with fail
  refine (clone_any gv _ n S w hg).mono ?_
  rintro e w1 ⟨g', rfl, hg', hb1⟩
  have hf1 := hf.below hb1 (Nat.le_refl _)
  go_wp2_with fail
  refine (clone_any fv _ m F w1 hf1).mono ?_
  rintro e w2 ⟨f', rfl, hf', hb2⟩
  have hg2' := hg'.below hb2 (Nat.le_refl _)
  have hg2 := (hg.below hb1 (Nat.le_refl _)).below hb2 hb1.size
  have hf2 := hf1.below hb2 hb1.size
  have hbw2 : Below w.heap.size w w2 := hb1.trans (hb2.mono hb1.size)
  have hs12 : w1.heap.size ≤ w2.heap.size := hb2.size
  have hsw2 : w.heap.size ≤ w2.heap.size := hbw2.size
  clear hb1 hb2 hg hf hf1 hg'
  obtain ⟨ag, capg, rfl, hn⟩ := hg2'.shape
  obtain ⟨af, capf, rfl, hm⟩ := hf'.shape
  go_wp2_with fail
  refine (require_abs w2.heap.size (.slice ag n capg) w2.heap.size n S (.slice af m capf) w2.heap.size m F _ ?_ ?_ ?_).mono ?_
  · exact (hg2'.up hs12).below ((Below.refl w2.heap.size _).alloc (Nat.le_refl _) _) (Nat.le_refl _)
  · simp
  · exact hf'.below ((Below.refl w2.heap.size _).alloc (Nat.le_refl _) _) (Nat.le_refl _)
  rintro e w4 ⟨k, ev, rfl, hk, hyes, htold, hb4⟩
  have hb24 : Below w2.heap.size w2 w4 := ((Below.refl w2.heap.size w2).alloc (Nat.le_refl _) _).trans (hb4.mono (by simp))
  have hp : w4.cell? ⟨w2.heap.size, 0, none⟩ = some (.string { data := #[112] }) := by
    rw [hb4.cell (p := ⟨w2.heap.size, 0, none⟩) (by simp)]; simp
  clear hb4
  have hgg := (hg2'.up hs12).below hb24 (Nat.le_refl _)
  have hff := hf'.below hb24 (Nat.le_refl _)
  have hg4 := hg2.below hb24 hsw2
  have hf4 := hf2.below hb24 hsw2
  have hbw4 : Below w.heap.size w w4 := hbw2.trans (hb24.mono hsw2)
  clear hg2' hf' hg2 hf2 hbw2 hb24
  go_wp2_with fail
  refine (same_any _ _ _ _ n S _ hgg hg4).mono ?_
  rintro e w5 ⟨rfl, q, rfl⟩
  go_wp2_with fail
  refine (same_any _ _ _ _ m F _ (hff.drewN q) (hf4.drewN q)).mono ?_
  rintro e w5 ⟨rfl, q', rfl⟩
  clear hg4 hf4
  go_wp2_with fail
  generalize q + q' = q0
  have Hyes : Hid (∀ i, i < k → hasB n S (F i) = true) := hyes
  have Htold : Hid (Told n m S F k ev w4) := htold
  have Hbw : Hid (Below w.heap.size w w4) := hbw4
  clear hyes htold hbw4 q q' hp
  obtain ⟨_, _, e1, -, hgc⟩ := hgg
  cases e1
  obtain ⟨_, _, e2, -, hfc⟩ := hff
  cases e2
  go_loopw [9, 10, 11, 12] (fun wa i _ _ wr => ∃ c : Nat, c ≤ m ∧ i = .int .i64 c ∧ (c ≤ k ∧ wa = .int .i64 (-1) ∨ c = k + 1 ∧ wa = .int .i64 k) ∧ ∃ q, wr = w4.drewN q) (fun _ i _ _ _ => m - (intOf i).toNat)
  case atStart => exact ⟨0, Nat.zero_le _, rfl, .inl ⟨Nat.zero_le _, rfl⟩, q0, rfl⟩
  case round =>
    obtain ⟨c, hc, rfl, hw, q, rfl⟩ := hrel
    by_cases hlt : c < m
    · rcases hw with ⟨hck, rfl⟩ | ⟨rfl, rfl⟩
      · go_wp2_with fail
        obtain ⟨bf, of, rfl, -, hcf⟩ : ∃ b off, af = some ⟨b, off, none⟩ ∧ b < w2.heap.size ∧ ∀ j, j < m → w4.cell? ⟨b, off + j, none⟩ = some (.string (F j)) := by
          rcases hfc with h0 | h
          · omega
          · exact h
        have hcellf := hcf c hlt
        go_loopw [11, 12] (fun f j wr => ∃ d : Nat, d ≤ n ∧ j = .int .i64 d ∧ f = .bool false ∧ hasB d S (F c) = false ∧ ∃ q, wr = w4.drewN q) (fun _ j _ => n - (intOf j).toNat)
        case atStart => exact ⟨0, Nat.zero_le _, rfl, rfl, rfl, q, rfl⟩
        case round =>
          obtain ⟨d, hd, rfl, rfl, hno, q1, rfl⟩ := hrel
          have Hno : Hid (hasB d S (F c) = false) := hno
          clear hno
          by_cases hdn : d < n
          · obtain ⟨bg, og, rfl, -, hcg⟩ : ∃ b off, ag = some ⟨b, off, none⟩ ∧ b < w2.heap.size ∧ ∀ j, j < n → w4.cell? ⟨b, off + j, none⟩ = some (.string (S j)) := by
              rcases hgc with h0 | h
              · omega
              · exact h
            have hcellg := hcg d hdn
            go_wp2_with fail
            go_quiet (fail)
            go_wp2_with fail
            · have ht : ((S d).toList == (F c).toList) = true := by assumption
              have hy : hasB n S (F c) = true := hasB_mem hdn (by rw [beqc]; exact ht)
              have hck' : c < k := by
                by_cases e : c = k
                · rw [e] at hy
                  rcases Htold.out with ⟨h1, -⟩ | ⟨-, h2, -⟩
                  · omega
                  · rw [h2] at hy; cases hy
                · omega
              go_roundw
              case rel => exact ⟨c + 1, by omega, by go_num, .inl ⟨by omega, rfl⟩, _, rfl⟩
              case measure => simp [intOf]; omega
            · have ht : ((S d).toList == (F c).toList) = false := by assumption
              have hs : hasB (d + 1) S (F c) = false := by rw [hasB_succ, Hno.out, beqc, ht]; rfl
              have Hs : Hid (hasB (d + 1) S (F c) = false) := hs
              clear hs
              go_roundw
              case rel => exact ⟨d + 1, by omega, by go_num, rfl, Hs.out, _, rfl⟩
              case measure => simp [intOf]; omega
          · have e : d = n := by omega
            have hck' : c = k := by
              by_cases e' : c = k
              · exact e'
              · have h1 := Hyes.out c (by omega)
                rw [← e, Hno.out] at h1
                cases h1
            subst hck'
            go_wp2_with fail
            go_roundw
            case rel => exact ⟨c + 1, by omega, by go_num, .inr ⟨rfl, rfl⟩, _, rfl⟩
            case measure => simp [intOf]; omega
      · rcases Htold.out with ⟨h1, -⟩ | ⟨hkm, -, eb, rfl, he0, he1⟩
        · omega
        clear hgc Htold
        obtain ⟨bf, of, rfl, -, hcf⟩ : ∃ b off, af = some ⟨b, off, none⟩ ∧ b < w2.heap.size ∧ ∀ j, j < m → w4.cell? ⟨b, off + j, none⟩ = some (.string (F j)) := by
          rcases hfc with h0 | h
          · omega
          · exact h
        have hcellf := hcf k hkm
        clear hcf hfc
        have hta := assert_yes
        unfold missing at he1
        go_wp2_with fail
        go_quiet (fail)
        go_wp2_with fail
        go_ret
        exact ⟨rfl, Hbw.out.trans ((Below_drewN _ _ _).trans (Below_drewN _ _ _))⟩
    · rcases hw with ⟨hck, rfl⟩ | ⟨rfl, rfl⟩
      · rcases Htold.out with ⟨-, rfl⟩ | ⟨hkm, -⟩
        · clear Htold hgc hfc
          go_wp2_with fail
          go_ret
          exact ⟨rfl, Hbw.out.trans (Below_drewN _ _ _)⟩
        · omega
      · rcases Htold.out with ⟨h1, -⟩ | ⟨hkm, -, eb, rfl, he0, he1⟩
        · omega
        clear hgc Htold
        obtain ⟨bf, of, rfl, -, hcf⟩ : ∃ b off, af = some ⟨b, off, none⟩ ∧ b < w2.heap.size ∧ ∀ j, j < m → w4.cell? ⟨b, off + j, none⟩ = some (.string (F j)) := by
          rcases hfc with h0 | h
          · omega
          · exact h
        have hcellf := hcf k hkm
        clear hcf hfc
        have hta := assert_yes
        unfold missing at he1
        go_wp2_with fail
        go_quiet (fail)
        go_wp2_with fail
        go_ret
        exact ⟨rfl, Hbw.out.trans ((Below_drewN _ _ _).trans (Below_drewN _ _ _))⟩
end Go.Proofs.Ybulkcfua
