import Derived.Test.YbulkcfwsFmtReach2
import Derived.Test.YbulkcfwsFmtSorted
import Derived.Maps.RangeWalk
import Derived.Deep.AppendLies
namespace Go.Proofs.YbulkcfwsFmt
open Go.RowKit Go.WideMaps Go.Maps

/-- What the walk of control hands back. -/
def ReachTo (L : List Rel) (d : Int) (up : Bool) (c : Nat) (w : World) (e : Ending) (w' : World) : Prop :=
  ∃ bm T n, e = .returned (.map (some bm)) ∧ w.heap.size ≤ bm ∧ CP L d up c T T.length n ∧
      MapIs nameOf 7 w' bm T.length (.int .i64 0) (fun q => if q ∈ T then .int .i64 (n q : Nat) else .int .i64 0) (fun q => decide (q ∈ T)) ∧ Below w.heap.size w w'

theorem invK (key : Value) (kl : Lit) (h : keyOf Ybaf.prog 9 key = some kl) : ∃ x, key = Value.string x := by
  obtain ⟨s, hs, _⟩ := string_of_keyOf Ybaf.underlying9 h
  exact ⟨s, hs⟩

theorem invV (v : Value) (y : DataW Value × List MemPlace) (_ : raw v = some y) : ∃ c : Value, v = id c := ⟨v, rfl⟩

theorem ctl_eq0 (p : Nat) (hp : p < 7) : ((nameOf p).toList == [99, 111, 109, 112, 97, 110, 121]) = (p == 0) := by
  rcases lt7 hp with rfl | rfl | rfl | rfl | rfl | rfl | rfl <;> decide +kernel

theorem keyL_ne {p q : Nat} (hp : p < 7) (hq : q < 7) (h : p ≠ q) : (keyL (nameOf p)).sameKey (keyL (nameOf q)) = false := by
  rcases lt7 hp with rfl | rfl | rfl | rfl | rfl | rfl | rfl <;> rcases lt7 hq with rfl | rfl | rfl | rfl | rfl | rfl | rfl <;> first | exact absurd rfl h | decide +kernel

theorem keyL_same {p : Nat} (hp : p < 7) : (keyL (nameOf p)).sameKey (keyL (nameOf p)) = true := by
  rcases lt7 hp with rfl | rfl | rfl | rfl | rfl | rfl | rfl <;> decide +kernel

/-- Those that have come, of those that count. -/
structure CI (B : Nat) (c : Nat) (T : List Nat) (left : Lit → Bool) (W : World) (v : Value) (ids : List Nat) : Prop where
  own : W.ownsRow B 9 1 v ids.length (ids.map fun q => .string (nameOf q))
  nodup : ids.Nodup
  lt : ∀ q ∈ ids, q < 7
  mem : ∀ q, q < 7 → (q ∈ ids ↔ (q ∈ T ∧ q ≠ c ∧ q ≠ 0) ∧ left (keyL (nameOf q)) = false)

theorem CI.skip {B c : Nat} {T : List Nat} {left : Lit → Bool} {W W' : World} {v : Value} {ids : List Nat} {q : Nat} (h : CI B c T left W v ids) (hq : q < 7) (hs : ¬ (q ≠ c ∧ q ≠ 0)) (hk : ∀ g, v.ownBlock = some g → W'.heap[g]? = W.heap[g]?) :
    CI B c T (fun z => left z && !z.sameKey (keyL (nameOf q))) W' v ids := by
  refine ⟨?_, h.nodup, h.lt, fun q' hq' => ?_⟩
  · obtain ⟨hl, h1⟩ := h.own
    refine ⟨hl, ?_⟩
    rcases h1 with h1 | ⟨g, cap, cur, rfl, hb, hg, r⟩
    · exact .inl h1
    · exact .inr ⟨g, cap, cur, rfl, hb, (hk g rfl).trans hg, r⟩
  · rw [h.mem q' hq']
    by_cases e : q' = q
    · subst e
      constructor
      · intro h'; exact absurd h'.1.2 hs
      · intro h'; exact absurd h'.1.2 hs
    · simp [keyL_ne hq' hq e]

theorem CI.add {B c : Nat} {T : List Nat} {left : Lit → Bool} {W W' : World} {v v' : Value} {ids : List Nat} {q : Nat} (h : CI B c T left W v ids) (hq : q < 7) (hT : q ∈ T) (hs : q ≠ c ∧ q ≠ 0) (hlq : left (keyL (nameOf q)) = true)
    (hown : W'.ownsRow B 9 1 v' (ids.length + 1) ((ids.map fun q => .string (nameOf q)) ++ [.string (nameOf q)])) :
    CI B c T (fun z => left z && !z.sameKey (keyL (nameOf q))) W' v' (ids ++ [q]) := by
  have hnot : q ∉ ids := fun hm => by
    have := ((h.mem q hq).1 hm).2
    rw [hlq] at this
    cases this
  refine ⟨?_, ?_, ?_, fun q' hq' => ?_⟩
  · rw [List.map_append, List.length_append]
    exact hown
  · rw [List.nodup_append]
    exact ⟨h.nodup, by simp, fun a ha b hb e => hnot (by rw [List.mem_singleton] at hb; rw [← hb, ← e]; exact ha)⟩
  · intro q' hm
    rcases List.mem_append.1 hm with hm | hm
    · exact h.lt q' hm
    · rw [List.mem_singleton] at hm; omega
  · rw [List.mem_append, List.mem_singleton, h.mem q' hq']
    by_cases e : q' = q
    · subst e
      simp [keyL_same hq', hT, hs]
    · simp [keyL_ne hq' hq e, e]

theorem CI.len {B c : Nat} {T : List Nat} {left : Lit → Bool} {W : World} {v : Value} {ids : List Nat} (h : CI B c T left W v ids) : ids.length ≤ 7 := nodup_len 7 ids h.nodup h.lt

set_option maxRecDepth 100000 in
set_option maxHeartbeats 4000000 in
theorem controlOn_any (rb c : Nat) (L : List Rel) (d : Int) (up : Bool) (fv : Value) (w : World)
    (HR : Calls Ybaf.prog 43 #[.pointer (some ⟨rb, 0, none⟩), fv, .bool up, .int .i32 d, .nilFunc] w (ReachTo L d up c w)) :
    Calls Ybaf.prog 32 #[.pointer (some ⟨rb, 0, none⟩), fv, .int .i32 d, .bool up] w fun e w' => (∃ (v : Value) (qs : List Nat), e = .returned v ∧ (∀ q, q ∈ qs ↔ Reach L d up c q ∧ q ≠ c ∧ q ≠ 0) ∧ (∀ q ∈ qs, q < 7) ∧ qs.length ≤ 7 ∧ Strs (w.heap.size ≤ ·) w' v (qs.map nameOf)) ∧ Below w.heap.size w w' := by
  obtain ⟨i0, hi0, hz0, hz1, hz2⟩ := info_parts (show (Ybaf.prog.info? 9).map (fun i => (i.zero, i.size, i.bytes)) = some (some (Value.string ⟨#[]⟩), 1, 16) by kernel_rfl)
  go_enter Ybaf.func32, Ybaf.ntmps32
  go_wp2_with fail
  refine HR.mono ?_
  rintro e w1 ⟨bm, T, n, rfl, hbm, hcp, hmap, hb1⟩
  obtain ⟨D, hownM, hD, hDk⟩ := hmap
  have HD : Hid (∀ p, p < 7 → D.atKey (keyL (nameOf p)) (.held (.int .i64 0)) = .held (if p ∈ T then .int .i64 (n p : Nat) else .int .i64 0) ∧ Maps.has D (keyL (nameOf p)) = decide (p ∈ T)) := hD
  have HDk : Hid (∀ kl, Maps.has D kl = true → ∃ p, p < 7 ∧ kl = keyL (nameOf p)) := hDk
  have HCP : Hid (CP L d up c T T.length n) := hcp
  have HB1 : Hid (Below w.heap.size w w1) := hb1
  clear hD hDk hcp hb1
  go_wp2_with (at_range; refine wpList_range_own _ rfl _ 69 rfl 9 3 keyed9 Ybaf.underlying69 raw bm T.length D rfl hownM ?_; intro w0 hrg0 hg0 hs0)
  go_frame
  have HB0 : Hid (Below w.heap.size w w0) := HB1.out.grown hg0 HB1.out.size (fun k e => by cases e)
  go_loopw [9, 10] (fun v _ wr => ∃ left cnt ids, Hid (wr.ranges Ybaf.prog 9 raw bm w1.heap.size T.length D left cnt) ∧ Hid (∀ kl, left kl = true → Maps.has D kl = true) ∧ Hid (CI w0.heap.size c T left wr v ids) ∧ Hid (Below w.heap.size w wr) ∧ Hid (w0.heap.size ≤ wr.heap.size)) (fun _ _ wr => wr.rangeLeft bm w1.heap.size)
  case atStart =>
    refine ⟨_, _, [], hrg0, fun kl h => h, ⟨World.ownsRow_nil w0 _ 9 1, by simp, by simp, fun q hq => ?_⟩, HB0, Nat.le_refl _⟩
    rw [(HD.out q hq).2]
    simp
    exact fun h _ _ => h
  case round =>
    obtain ⟨left, cnt, ids, hrg, hlf, hci, hbl, hsz⟩ := hrel
    go_wp2_with (at_next; refine wpList_next_ranges _ rfl _ rfl 9 keyed9 raw Value.string id invK invV bm w1.heap.size T.length D left cnt rfl hrg.out ?_ ?_)
    · intro hc0 hl0
      have hmem : ∀ q, q < 7 → (q ∈ ids ↔ q ∈ T ∧ q ≠ c ∧ q ≠ 0) := fun q hq => by
        rw [hci.out.mem q hq, hl0]
        simp
      have HS : Hid (Calls Ybaf.prog 44 #[u9] wr fun e w' => e = .returned (.tuple #[]) ∧ Below w0.heap.size wr w' ∧ ∃ qs : List Nat, (∀ q, q ∈ qs ↔ q ∈ ids) ∧ qs.length = ids.length ∧ Nam w0.heap.size w' u9 qs) := sortN_any w0.heap.size u9 ids wr (nam_of_owns hci.out.own) hci.out.lt (by have := hci.out.len; omega)
      have Hmem : Hid (∀ q, q < 7 → (q ∈ ids ↔ q ∈ T ∧ q ≠ c ∧ q ≠ 0)) := hmem
      clear hmem hl0 hc0
      go_wp2_with fail
      refine HS.out.mono ?_
      rintro e w5 ⟨rfl, hb5, qs, hm5, hl5, hnam⟩
      have HB5 : Hid (Below w.heap.size w w5) := hbl.out.trans (hb5.mono (by have := HB0.out.size; omega))
      have HNam : Hid (Strs (w.heap.size ≤ ·) w5 u9 (qs.map nameOf)) := hnam.strs.mono (fun b hb _ => by have := HB0.out.size; omega)
      have Hm5 : Hid (∀ q, q ∈ qs ↔ q ∈ ids) := hm5
      clear hb5 hnam hm5 HS
      go_wp2_with fail
      go_ret
      refine ⟨⟨_, qs, rfl, fun q => ?_, fun q hq => hci.out.lt q ((Hm5.out q).1 hq), by have := hci.out.len; omega, HNam.out⟩, HB5.out⟩
      rw [Hm5.out, ← HCP.out.done]
      constructor
      · intro hq
        exact (Hmem.out q (hci.out.lt q hq)).1 hq
      · intro hq
        exact (Hmem.out q (HCP.out.lt q hq.1)).2 hq
    · intro x cV kl y1 y2 w2 cnt' hkey hlk hy hat hrg2 hlt hg2 hs2 hen
      obtain ⟨q, hq7, rfl⟩ := HDk.out kl (hlf.out kl hlk)
      obtain ⟨s0, hs0', hs0'', -⟩ := string_of_keyOf Ybaf.underlying9 hkey
      cases hs0'
      obtain rfl : nameOf q = x := keyL_inj hs0''
      have hqT : q ∈ T := by
        have := hlf.out _ hlk
        rw [(HD.out q hq7).2] at this
        exact of_decide_eq_true this
      obtain rfl : cV = .int .i64 (n q : Nat) := by
        have h1 := hat (.held (.int .i64 0))
        rw [(HD.out q hq7).1, if_pos hqT] at h1
        simp only [raw, Option.some.injEq, Prod.mk.injEq] at hy
        rw [← hy.1] at h1
        simp only [DataW.held.injEq] at h1
        exact h1.symm
      have hn7 := HCP.out.small q hqT
      have hT7 := HCP.out.len
      have hnz := HCP.out.zero q hqT
      have hq0 := ctl_eq0 q hq7
      have hne : ∀ g, u9.ownBlock = some g → g ≠ w1.heap.size := fun g hg => by have := (hci.out.own.lt g hg).1; omega
      have hkeep : ∀ g, u9.ownBlock = some g → w2.heap[g]? = wr.heap[g]? := fun g hg => hg2.block g (hci.out.own.lt g hg).2 (fun e => hne g hg (by cases e; rfl))
      have hb2 : Below w.heap.size w w2 := hbl.out.grown hg2 hbl.out.size (fun k e => by cases e; exact HB1.out.size)
      have HB2 : Hid (Below w.heap.size w w2) := hb2
      have HRG2 : Hid (w2.ranges Ybaf.prog 9 raw bm w1.heap.size T.length D (fun z => left z && !z.sameKey (keyL (nameOf q))) cnt') := hrg2
      have HLF2 : Hid (∀ kl, (left kl && !kl.sameKey (keyL (nameOf q))) = true → Maps.has D kl = true) := fun kl h => hlf.out kl (by simp at h; exact h.1)
      have HKEEP : Hid (∀ g, u9.ownBlock = some g → w2.heap[g]? = wr.heap[g]?) := hkeep
      have HLK : Hid (left (keyL (nameOf q)) = true) := hlk
      have hsz2 : w0.heap.size ≤ w2.heap.size := by have := hsz.out; omega
      have hmeas : w2.rangeLeft bm w1.heap.size < wr.rangeLeft bm w1.heap.size := by rw [hrg2.left_eq, hrg.out.left_eq]; exact hlt
      have HME : Hid (∀ W : World, W.ranges Ybaf.prog 9 raw bm w1.heap.size T.length D (fun z => left z && !z.sameKey (keyL (nameOf q))) cnt' → W.rangeLeft bm w1.heap.size < wr.rangeLeft bm w1.heap.size) := fun W hW => by rw [hW.left_eq, hrg.out.left_eq]; exact hlt
      have HG2 : Hid (wr.grownBy w2 (some w1.heap.size)) := hg2
      clear hat hy hkey hs0'' hlk hrg2 hg2 hs2 hkeep hb2 hne hmeas
      have HCI : Hid (CI w0.heap.size c T left wr u9 ids) := hci.out
      have hil := hci.out.len
      have Hnz : Hid (n q = 0 ↔ q = c) := hnz
      have HQ7 : Hid (q < 7) := hq7
      have HQT : Hid (q ∈ T) := hqT
      clear hci hnz hqT
      generalize hnq : nameOf q = nq at hen hq0
      have Hnq : Hid (nameOf q = nq) := hnq
      clear hnq
      by_cases hn0 : n q = 0
      · have hS : Hid (CI w0.heap.size c T (fun z => left z && !z.sameKey (keyL (nameOf q))) w2 u9 ids) := HCI.out.skip hq7 (fun h => h.1 (Hnz.out.1 hn0)) HKEEP.out
        rw [hn0] at hen ⊢
        go_wp2_with fail
        go_roundw
        case rel => first | exact ⟨_, cnt', ids, HRG2, HLF2, hS, HB2, hsz2⟩ | ((repeat apply Exists.intro); refine ⟨?_, rfl⟩; exact ⟨_, cnt', ids, HRG2, HLF2, hS, HB2, hsz2⟩)
        case measure => exact HME.out _ HRG2.out
      · have hnp : 0 < n q := by omega
        cases hq00 : (q == 0)
        · rw [hq00] at hq0
          have Hq00 : Hid (q ≠ 0) := by show q ≠ 0; simpa using hq00
          have Hqc : Hid (q ≠ c) := fun e => hn0 (Hnz.out.2 e)
          have hown2 : w2.ownsRow w0.heap.size 9 1 u9 ids.length (ids.map fun q => .string (nameOf q)) := by
            obtain ⟨hl, h1⟩ := HCI.out.own
            refine ⟨hl, ?_⟩
            rcases h1 with h1 | ⟨g, cap, cur, h', hb, hg, r⟩
            · exact .inl h1
            · exact .inr ⟨g, cap, cur, h', hb, (HKEEP.out g (by rw [h']; rfl)).trans hg, r⟩
          clear hq00 hn0
          go_wp2_with (at_builtin; refine wpList_append_own_at _ rfl _ _ 47 rfl w0.heap.size 9 i0 _ 1 16 Ybaf.underlying47 hi0 hz0 hz1 hz2 rfl (by decide) u9 ids.length (ids.map fun q => .string (nameOf q)) rfl (hown2.alloc _) ⟨w2.heap.size, 0, none⟩ 1 1 [.string nq] rfl rfl (World.news_of_block (cs := #[.string nq]) (t := 9) (fr := (0, 0)) (heap_alloc_new w2 _)) ?c2 ?c3 ?c4 ?c5 ?_)
          case c2 => intro u hu; rw [List.mem_singleton] at hu; subst hu; rfl
          case c3 => unfold maxLen; omega
          case c4 => omega
          case c5 => simp; omega
          intro v' w4 hown' hgrow' _ _
          have hb4 : Below w.heap.size w w4 := (HB2.out.alloc HB2.out.size _).grown hgrow' (by have := HB2.out.size; simp; omega) (fun k hk => by have := (hown2.lt k hk).1; have := HB0.out.size; omega)
          have HB4 : Hid (Below w.heap.size w w4) := hb4
          have HRG4 : Hid (w4.ranges Ybaf.prog 9 raw bm w1.heap.size T.length D (fun z => left z && !z.sameKey (keyL (nameOf q))) cnt') := (HRG2.out.alloc _).kept hgrow' (fun e => by have := (hown2.lt bm e.symm).1; have := hownM.lt; omega) (fun e => by have := (hown2.lt w1.heap.size e.symm).1; omega)
          have hC4 : Hid (CI w0.heap.size c T (fun z => left z && !z.sameKey (keyL (nameOf q))) w4 v' (ids ++ [q])) := HCI.out.add HQ7.out HQT.out ⟨Hqc.out, Hq00.out⟩ HLK.out (by rw [Hnq.out, hs0]; exact hown')
          have hsz4 : w0.heap.size ≤ w4.heap.size := by have := hgrow'.size; simp at this; omega
          clear hown' hgrow' hb4 hown2
          go_wp2_with fail
          go_roundw
          case rel => first | exact ⟨_, cnt', _, HRG4, HLF2, hC4, HB4, hsz4⟩ | ((repeat apply Exists.intro); refine ⟨?_, rfl⟩; exact ⟨_, cnt', _, HRG4, HLF2, hC4, HB4, hsz4⟩)
          case measure => exact HME.out _ HRG4.out
        · rw [hq00] at hq0
          have hS : Hid (CI w0.heap.size c T (fun z => left z && !z.sameKey (keyL (nameOf q))) w2 u9 ids) := HCI.out.skip hq7 (fun h => h.2 (by simpa using hq00)) HKEEP.out
          clear hq00 hn0
          go_wp2_with fail
          go_roundw
          case rel => first | exact ⟨_, cnt', ids, HRG2, HLF2, hS, HB2, hsz2⟩ | ((repeat apply Exists.intro); refine ⟨?_, rfl⟩; exact ⟨_, cnt', ids, HRG2, HLF2, hS, HB2, hsz2⟩)
          case measure => exact HME.out _ HRG2.out
end Go.Proofs.YbulkcfwsFmt
