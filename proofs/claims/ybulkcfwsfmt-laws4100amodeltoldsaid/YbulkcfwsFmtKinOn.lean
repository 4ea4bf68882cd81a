import Derived.Test.YbulkcfwsFmtKin
import Derived.Test.YbulkcfwsFmtSorted
import Derived.Test.YbulkcfwsFmtFam
namespace Go.Proofs.YbulkcfwsFmt
open Go.RowKit

/-- A row of paths. -/
def Paths (ok : Nat → Prop) (w : World) (v : Value) (ps : List (List Nat)) : Prop :=
  ∃ pv : Nat → Value, Row ok w v ps.length 1 (flat ps.length fun j => [pv j]) ∧ ∀ j, j < ps.length → Row ok w (pv j) (ps.getD j []).length 1 ((ps.getD j []).map fun s => .string (stepOf s))

theorem Paths.keep {ok ok' : Nat → Prop} {w w' : World} {v : Value} {ps : List (List Nat)} (h : Paths ok w v ps)
    (hk : ∀ b, ok b → b < w.heap.size → w'.heap[b]? = w.heap[b]? ∧ ok' b) (hs : w.heap.size ≤ w'.heap.size) : Paths ok' w' v ps := by
  obtain ⟨sv, h1, h2⟩ := h
  exact ⟨sv, h1.keep hk hs, fun j hj => (h2 j hj).keep hk hs⟩

theorem Paths.lift {ok : Nat → Prop} {w w' : World} {v : Value} {ps : List (List Nat)} (h : Paths ok w v ps) (hb : Below w.heap.size w w') : Paths ok w' v ps :=
  h.keep (fun b hok hlt => ⟨hb.block b hlt, hok⟩) hb.size

/-- All the chain's relations hold. -/
def chOn (L : List Rel) (d : Int) (e : Nat × List Nat) : Bool := !(e.2.any fun i => !(L.getD i r0).on d)
def kinK (L : List Rel) (d : Int) (K : List (Nat × List Nat)) : List Nat := (K.filter (chOn L d)).map (·.1)
def kinAll (L : List Rel) (d : Int) (p : Nat) (paths : List (List Nat)) : List Nat := paths.flatMap fun path => kinK L d (kinL L p path)

theorem kinK_snoc (L : List Rel) (d : Int) (K : List (Nat × List Nat)) (k : Nat) (hk : k < K.length) : kinK L d (K.take (k + 1)) = kinK L d (K.take k) ++ (if chOn L d (K.getD k default) = true then [(K.getD k default).1] else []) := by
  unfold kinK
  rw [List.take_succ_eq_append_getElem hk, List.filter_append, List.map_append]
  simp only [List.getD, List.getElem?_eq_getElem hk, Option.getD_some]
  congr 1
  cases e : chOn L d K[k] <;> simp [e]

theorem kinK_len (L : List Rel) (d : Int) (K : List (Nat × List Nat)) : (kinK L d K).length ≤ K.length := by
  unfold kinK
  rw [List.length_map]
  exact List.length_filter_le ..

theorem kinAll_snoc (L : List Rel) (d : Int) (p : Nat) (paths : List (List Nat)) (k : Nat) (hk : k < paths.length) : kinAll L d p (paths.take (k + 1)) = kinAll L d p (paths.take k) ++ kinK L d (kinL L p (paths.getD k [])) := by
  unfold kinAll
  rw [List.take_succ_eq_append_getElem hk, List.flatMap_append]
  simp [List.getD, List.getElem?_eq_getElem hk]

def nmS (ids : List Nat) : List Value := ids.map fun q => .string (nameOf q)

theorem nmS_snoc (ids : List Nat) (q : Nat) : nmS (ids ++ [q]) = nmS ids ++ [.string (nameOf q)] := by simp [nmS]

theorem kinK_lt (L : List Rel) (d : Int) (K : List (Nat × List Nat)) {m : Nat} (h : ∀ e ∈ K, ChOk L m e) : ∀ q ∈ kinK L d K, q < 7 := by
  intro q hq
  obtain ⟨e, he, rfl⟩ := List.mem_map.1 hq
  exact (h e (List.mem_filter.1 he).1).1

theorem kinAll_lt (L : List Rel) (hg : ∀ i, i < L.length → (L.getD i r0).ok) (hL : L.length ≤ 32) (d : Int) (p : Nat) (hp : p < 7) (paths : List (List Nat)) : ∀ q ∈ kinAll L d p paths, q < 7 := by
  intro q hq
  obtain ⟨path, _, hq⟩ := List.mem_flatMap.1 hq
  exact kinK_lt L d _ (kinL_ok L hg hL p hp path).1 q hq

theorem kinPath (L : List Rel) (hg : ∀ i, i < L.length → (L.getD i r0).ok) (hL : L.length ≤ 32) (p : Nat) (hp : p < 7) (path : List Nat) (hl : path.length ≤ 3) : (∀ e ∈ kinL L p path, ChOk L 3 e) ∧ (kinL L p path).length ≤ 262144 := by
  have := kinL_take L hg hL p hp path path.length hl
  rwa [List.take_length] at this

theorem kinAll_len (L : List Rel) (hg : ∀ i, i < L.length → (L.getD i r0).ok) (hL : L.length ≤ 32) (d : Int) (p : Nat) (hp : p < 7) (paths : List (List Nat)) (h3 : ∀ path ∈ paths, path.length ≤ 3) : (kinAll L d p paths).length ≤ paths.length * 262144 :=
  flatMap_len_le _ _ _ fun path hm => Nat.le_trans (kinK_len ..) (kinPath L hg hL p hp path (h3 path hm)).2

/-- The second loop's relation. -/
structure KO (B0 : Nat) (w0 : World) (C : Nat) (v24 : Value) (K : List (Nat × List Nat)) (W : World) (v : Value) (ids : List Nat) : Prop where
  own : W.ownsRow B0 9 1 v ids.length (nmS ids)
  bel : Below B0 w0 W
  kins : Kins (fun b => C ≤ b ∧ some b ≠ v.ownBlock) W v24 K

theorem KO.below {B0 : Nat} {w0 : World} {C : Nat} {v24 : Value} {K : List (Nat × List Nat)} {W W' : World} {v : Value} {ids : List Nat} (h : KO B0 w0 C v24 K W v ids) (h0 : B0 ≤ w0.heap.size) (hb : Below W.heap.size W W') : KO B0 w0 C v24 K W' v ids :=
  ⟨owns_heap h.own (fun g hg => hb.block g (h.own.lt g hg).2), h.bel.trans (hb.mono (Nat.le_trans h0 h.bel.size)), h.kins.keep (fun b hok hlt => ⟨hb.block b hlt, hok⟩) hb.size⟩

theorem KO.append {B0 : Nat} {w0 : World} {C : Nat} {v24 : Value} {K : List (Nat × List Nat)} {W W' : World} {v v' : Value} {ids : List Nat} {q : Nat} (h : KO B0 w0 C v24 K W v ids) (h0 : B0 ≤ w0.heap.size)
    (hown : W'.ownsRow B0 9 1 v' (ids.length + 1) (nmS ids ++ [.string (nameOf q)])) (hg : W.grownBy W' v.ownBlock) (hat : v'.ownBlock = v.ownBlock ∨ v'.ownBlock = some W.heap.size) : KO B0 w0 C v24 K W' v' (ids ++ [q]) := by
  refine ⟨?_, h.bel.grown hg (Nat.le_trans h0 h.bel.size) (fun k hk => (h.own.lt k hk).1), h.kins.keep (fun b hok hlt => ⟨hg.block b hlt hok.2, hok.1, ?_⟩) hg.size⟩
  · rw [nmS_snoc, List.length_append]
    exact hown
  · rcases hat with e | e
    · rw [e]; exact hok.2
    · rw [e]; intro e'; simp at e'; omega

set_option maxRecDepth 100000 in
set_option maxHeartbeats 4000000 in
theorem kinOn_any {ok ok' : Nat → Prop} (rb p : Nat) (L : List Rel) (d : Int) (pv : Value) (paths : List (List Nat)) (w : World) (h : Reg ok w rb L) (hp : p < 7)
    (hpv : Paths ok' w pv paths) (hpl : paths.length ≤ 16) (hp3 : ∀ path ∈ paths, path.length ≤ 3) (hps : ∀ path ∈ paths, ∀ s ∈ path, s < 5) :
    Calls Ybaf.prog 41 #[.pointer (some ⟨rb, 0, none⟩), .string (nameOf p), pv, .int .i32 d] w fun e w' => (∃ (v' : Value) (qs : List Nat), e = .returned v' ∧ (∀ q, q ∈ qs ↔ q ∈ kinAll L d p paths) ∧ qs.length ≤ 4194304 ∧ Strs (w.heap.size ≤ ·) w' v' (qs.map nameOf)) ∧ Below w.heap.size w w' := by
  have H : Hid (Reg (· < w.heap.size) w rb L) := h.self
  have hlen := h.len
  have HG : Hid (∀ i, i < L.length → (L.getD i r0).ok) := h.good
  obtain ⟨pvf, hprow, hpaths⟩ := hpv
  have HPR : Hid (Row ok' w pv paths.length 1 (flat paths.length fun j => [pvf j])) := hprow
  have HPS : Hid (∀ j, j < paths.length → Row ok' w (pvf j) (paths.getD j []).length 1 ((paths.getD j []).map fun s => .string (stepOf s))) := hpaths
  have HP3 : Hid (∀ path ∈ paths, path.length ≤ 3) := hp3
  have HP5 : Hid (∀ path ∈ paths, ∀ s ∈ path, s < 5) := hps
  obtain ⟨pa, pc, rfl⟩ := hprow.form
  obtain ⟨i0, hi0, hz0, hz1, hz2⟩ := info_parts info9
  have HKin : Hid (∀ W, Below w.heap.size w W → ∀ j, j < paths.length → Calls Ybaf.prog 49 #[.pointer (some ⟨rb, 0, none⟩), .string (nameOf p), pvf j, .int .i32 d] W fun e w' => (∃ v', e = .returned v' ∧ Kins (W.heap.size ≤ ·) w' v' (kinL L p (paths.getD j []))) ∧ Below W.heap.size W w') := fun W hW j hj =>
    kin_any rb p L d (pvf j) (paths.getD j []) W (H.out.below hW) hp ((HPS.out j hj).lift hW) (HP3.out _ (by simp [List.getD, List.getElem?_eq_getElem hj])) (HP5.out _ (by simp [List.getD, List.getElem?_eq_getElem hj]))
  clear h hprow hpaths hp3 hps
  generalize nameOf p = np at *
  go_enter Ybaf.func41, Ybaf.ntmps41
  go_wp2_with fail
  have hb0 : Below w.heap.size w ((w.alloc (.cells #[.pointer (some ⟨rb, 0, none⟩)] 25)).alloc (.cells #[.int .i32 d] 29)) := ((Below.refl _ w).alloc (Nat.le_refl _) _).alloc (by simp) _
  have hs0 : ((w.alloc (.cells #[.pointer (some ⟨rb, 0, none⟩)] 25)).alloc (.cells #[.int .i32 d] 29)).heap.size = w.heap.size + 2 := by simp
  have hc4 : ((w.alloc (.cells #[.pointer (some ⟨rb, 0, none⟩)] 25)).alloc (.cells #[.int .i32 d] 29)).cell? ⟨w.heap.size, 0, none⟩ = some (.pointer (some ⟨rb, 0, none⟩)) := by go_simp
  have hc7 : ((w.alloc (.cells #[.pointer (some ⟨rb, 0, none⟩)] 25)).alloc (.cells #[.int .i32 d] 29)).cell? ⟨w.heap.size + 1, 0, none⟩ = some (.int .i32 d) := by go_simp
  generalize ((w.alloc (.cells #[.pointer (some ⟨rb, 0, none⟩)] 25)).alloc (.cells #[.int .i32 d] 29)) = w0 at *
  have HB0 : Hid (Below w.heap.size w w0) := hb0
  have HS0 : Hid (w0.heap.size = w.heap.size + 2) := hs0
  have HC4 : Hid (w0.cell? ⟨w.heap.size, 0, none⟩ = some (.pointer (some ⟨rb, 0, none⟩))) := hc4
  have HC7 : Hid (w0.cell? ⟨w.heap.size + 1, 0, none⟩ = some (.int .i32 d)) := hc7
  clear hb0 hs0 hc4 hc7
  go_loopw [9, 16] (fun v i wr => ∃ k : Nat, k ≤ paths.length ∧ i = .int .i64 k ∧ Hid (wr.ownsRow w0.heap.size 9 1 v (kinAll L d p (paths.take k)).length (nmS (kinAll L d p (paths.take k)))) ∧ Below w0.heap.size w0 wr) (fun _ i _ => paths.length - (intOf i).toNat)
  case atStart => exact ⟨0, Nat.zero_le _, rfl, World.ownsRow_nil w0 _ 9 1, Below.refl _ _⟩
  case round =>
    obtain ⟨k, hk, rfl, hown, hbl⟩ := hrel
    have c4 := (hbl.cell (p := ⟨w.heap.size, 0, none⟩) (by rw [HS0.out]; simp)).trans HC4.out
    have c7 := (hbl.cell (p := ⟨w.heap.size + 1, 0, none⟩) (by rw [HS0.out]; simp)).trans HC7.out
    have hwr : Below w.heap.size w wr := HB0.out.trans (hbl.mono (by rw [HS0.out]; omega))
    have hszr : w.heap.size + 2 ≤ wr.heap.size := by have := hbl.size; rw [HS0.out] at this; exact this
    have HWR : Hid (Below w.heap.size w wr) := hwr
    have HBL : Hid (Below w0.heap.size w0 wr) := hbl
    by_cases hlt : k < paths.length
    · obtain ⟨pb, poff, pcap, hpe, -, hpb, hpc⟩ := HPR.out.cell (by omega)
      simp only [Value.slice.injEq, true_and] at hpe
      obtain ⟨rfl, rfl⟩ := hpe
      have hcell : wr.cell? ⟨pb, poff + k, none⟩ = some (pvf k) := (hwr.cell (p := ⟨pb, poff + k, none⟩) hpb).trans (hpc k _ (by
        have := flat_get (m := 1) (n := paths.length) (f := fun j => [pvf j]) (fun _ _ => rfl) hlt (by decide : 0 < 1)
        simpa using this))
      have hpm : paths.getD k [] ∈ paths := by simp [List.getD, List.getElem?_eq_getElem hlt]
      obtain ⟨hK1, hK2⟩ := kinPath L HG.out hlen p hp _ (HP3.out _ hpm)
      have HK1 : Hid (∀ e ∈ kinL L p (paths.getD k []), ChOk L 3 e) := hK1
      have Hsn : Hid (kinAll L d p (paths.take (k + 1)) = kinAll L d p (paths.take k) ++ kinK L d (kinL L p (paths.getD k []))) := kinAll_snoc L d p paths k hlt
      have hal : (kinAll L d p (paths.take k)).length ≤ 4194304 := by
        have := kinAll_len L HG.out hlen d p hp (paths.take k) (fun path hm => HP3.out path (List.mem_of_mem_take hm))
        have h2 : (paths.take k).length ≤ 16 := by simp; omega
        omega
      have HKc := HKin.out wr hwr k hlt
      obtain ⟨qa, qc, hqv⟩ := (HPS.out k hlt).form
      generalize pvf k = pk at *
      subst hqv
      generalize (paths.getD k []).length = qn at *
      generalize kinL L p (paths.getD k []) = K at *
      generalize kinAll L d p (paths.take k) = ids at *
      have HKC : Hid (Calls Ybaf.prog 49 #[.pointer (some ⟨rb, 0, none⟩), .string np, .slice qa qn qc, .int .i32 d] wr fun e w' => (∃ v', e = .returned v' ∧ Kins (wr.heap.size ≤ ·) w' v' K) ∧ Below wr.heap.size wr w') := HKc
      clear hpc hbl hwr hpm hK1 HKc
      obtain ⟨w1, rfl⟩ : ∃ w1 : World, w1 = wr := ⟨_, rfl⟩
      go_wp2_with fail
      refine HKC.out.mono ?_
      rintro e w2 ⟨⟨v24, rfl, hkin⟩, hb2⟩
      have HKO : Hid (KO w0.heap.size w0 w1.heap.size v24 K w2 u9 ids) :=
        ⟨owns_heap hown.out (fun g hg => hb2.block g (hown.out.lt g hg).2), HBL.out.trans (hb2.mono HBL.out.size), hkin.keep (fun b hok _ => ⟨rfl, hok, fun e => by have := (hown.out.lt b e.symm).2; omega⟩) (Nat.le_refl _)⟩
      obtain ⟨ka, kc, rfl⟩ : ∃ a c, v24 = .slice a K.length c := by
        obtain ⟨_, hr, _⟩ := hkin
        exact hr.form
      clear hkin hb2 HKC hown c4 c7
      go_wp2_with fail
      go_loopw [9, 26] (fun v i wr => ∃ k2 : Nat, k2 ≤ K.length ∧ i = .int .i64 k2 ∧ Hid (KO w0.heap.size w0 w1.heap.size (.slice ka K.length kc) K wr v (ids ++ kinK L d (K.take k2)))) (fun _ i _ => K.length - (intOf i).toNat)
      case atStart => exact ⟨0, Nat.zero_le _, rfl, by simpa [kinK] using HKO⟩
      case round =>
        obtain ⟨k2, hk2, rfl, hko⟩ := hrel
        by_cases hlt2 : k2 < K.length
        · obtain ⟨sv, hrow, hst⟩ := hko.out.kins
          obtain ⟨kb, koff, kcap, hke, -, hkb, hkc⟩ := hrow.cell (by omega)
          simp only [Value.slice.injEq, true_and] at hke
          obtain ⟨rfl, rfl⟩ := hke
          have y0 : wr.cell? ⟨kb, koff + k2 * 2, none⟩ = some (.string (nameOf (K.getD k2 default).1)) := hkc (k2 * 2 + 0) _ (by rw [flat_get (m := 2) (fun _ _ => rfl) hlt2 (by decide)]; rfl)
          have y1 : wr.cell? ⟨kb, koff + k2 * 2 + 1, none⟩ = some (sv k2) := hkc (k2 * 2 + 1) _ (by rw [flat_get (m := 2) (fun _ _ => rfl) hlt2 (by decide)]; rfl)
          have hch : ChOk L 3 (K.getD k2 default) := HK1.out _ (by simp [List.getD, List.getElem?_eq_getElem hlt2])
          have hsk : Steps (fun b => w1.heap.size ≤ b ∧ some b ≠ u9.ownBlock) wr (sv k2) (K.getD k2 default).2 := hst k2 hlt2
          have Hks : Hid (kinK L d (K.take (k2 + 1)) = kinK L d (K.take k2) ++ (if chOn L d (K.getD k2 default) = true then [(K.getD k2 default).1] else [])) := kinK_snoc L d K k2 hlt2
          have hidl : (ids ++ kinK L d (K.take k2)).length ≤ 4456448 := by
            rw [List.length_append]
            have h1 := kinK_len L d (K.take k2)
            have h2 : (K.take k2).length ≤ K.length := by simp; omega
            omega
          generalize K.getD k2 default = e2 at *
          obtain ⟨p2, is⟩ := e2
          obtain ⟨hp2, his, hisl⟩ := hch
          simp only at hp2 his hisl y0 y1 hsk
          have hwr : Below w.heap.size w wr := HB0.out.trans (hko.out.bel.mono (by rw [HS0.out]; omega))
          have c4 := (hko.out.bel.cell (p := ⟨w.heap.size, 0, none⟩) (by rw [HS0.out]; simp)).trans HC4.out
          have c7 := (hko.out.bel.cell (p := ⟨w.heap.size + 1, 0, none⟩) (by rw [HS0.out]; simp)).trans HC7.out
          have hszr2 : w.heap.size + 2 ≤ wr.heap.size := by have := hko.out.bel.size; rw [HS0.out] at this; exact this
          obtain ⟨ska, skc, hske⟩ : ∃ a c, sv k2 = .slice a is.length c := by
            obtain ⟨_, hr', -⟩ := hsk
            exact hr'.form
          generalize sv k2 = sk at *
          subst hske
          have HC50 : Hid (∀ W, Below wr.heap.size wr W → Calls Ybaf.prog 50 #[.slice ska is.length skc, .func (.func 51) #[] #[.pointer (some ⟨w.heap.size, 0, none⟩), .pointer (some ⟨w.heap.size + 1, 0, none⟩)]] W fun e w' => e = .returned (.bool (is.any fun i => !(L.getD i r0).on d)) ∧ Below W.heap.size W w') := fun W hW =>
            containsH_any rb _ _ _ is L d W (H.out.below (hwr.trans (hW.mono hwr.size))) (hsk.lift hW) (by omega) his ((hW.cell (by simp; omega)).trans c4) ((hW.cell (by simp; omega)).trans c7) (Nat.lt_of_lt_of_le (by omega) hW.size) (Nat.lt_of_lt_of_le (by omega) hW.size)
          have HKO1 : Hid (∀ W, Below wr.heap.size wr W → KO w0.heap.size w0 w1.heap.size (.slice (some ⟨kb, koff, none⟩) K.length kc) K W u9 (ids ++ kinK L d (K.take k2))) := fun W hW => hko.out.below (Nat.le_refl _) hW
          have Hchn : Hid (chOn L d (p2, is) = !(is.any fun i => !(L.getD i r0).on d)) := rfl
          have Hnm : Hid (∃ n2, nameOf p2 = n2) := ⟨_, rfl⟩
          clear hkc hrow hst hsk his hko hwr
          generalize hn2 : nameOf p2 = n2 at *
          have HN2 : Hid (nameOf p2 = n2) := hn2
          clear hn2 Hnm
          have hbx := (Below.refl wr.heap.size wr).alloc (Nat.le_refl _) (.cells #[.string n2, .slice ska is.length skc] 115)
          go_wp2_with fail
          refine (HC50.out _ hbx).mono ?_
          rintro e w3 ⟨rfl, hb3⟩
          have hb3' : Below wr.heap.size wr w3 := hbx.trans (hb3.mono hbx.size)
          have HK3 : Hid (KO w0.heap.size w0 w1.heap.size (.slice (some ⟨kb, koff, none⟩) K.length kc) K w3 u9 (ids ++ kinK L d (K.take k2))) := HKO1.out w3 hb3'
          have d0 : w3.cell? ⟨wr.heap.size, 0, none⟩ = some (.string n2) := (hb3.cell (by simp)).trans (by simp)
          have hbx3 : wr.heap.size < w3.heap.size := by have := hb3.size; simp at this; omega
          clear hb3 hb3' hbx HC50 HKO1 y0 y1 c4 c7
          cases hany : is.any fun i => !(L.getD i r0).on d
          · have Hany : Hid (chOn L d (p2, is) = true) := by show _ = _; rw [Hchn.out, hany]; rfl
            clear hany
            go_wp2_with (at_builtin; refine wpList_append_own_at _ rfl _ _ 47 rfl w0.heap.size 9 i0 _ 1 16 Ybaf.underlying47 hi0 hz0 hz1 hz2 rfl (by decide) u9 (ids ++ kinK L d (K.take k2)).length (nmS (ids ++ kinK L d (K.take k2))) rfl (HK3.out.own.alloc _) ⟨w3.heap.size, 0, none⟩ 1 1 [.string n2] rfl rfl (World.news_of_block (cs := #[.string n2]) (t := 9) (fr := (0, 0)) (heap_alloc_new w3 _)) ?c2 ?c3 ?c4 ?c5 ?_)
            case c2 => intro u hu; rw [List.mem_singleton] at hu; subst hu; rfl
            case c3 => unfold maxLen; omega
            case c4 => omega
            case c5 => have := HK3.out.bel.size; simp; omega
            intro v' w4 hown' hgrow' _ hat'
            have HK4 : Hid (KO w0.heap.size w0 w1.heap.size (.slice (some ⟨kb, koff, none⟩) K.length kc) K w4 v' (ids ++ kinK L d (K.take (k2 + 1)))) := by
              show KO ..
              rw [Hks.out, Hany.out]
              simp only [if_true]
              rw [← List.append_assoc]
              refine (HK3.out.below (Nat.le_refl _) ((Below.refl _ w3).alloc (Nat.le_refl _) _)).append (Nat.le_refl _) (q := p2) ?_ hgrow' (by simpa using hat')
              rw [HN2.out, List.length_append]
              exact hown'
            clear hown' hgrow' hat'
            go_wp2_with fail
            go_roundw
            case rel => first | exact ⟨k2 + 1, by omega, by go_num, HK4⟩ | ((repeat apply Exists.intro); refine ⟨?_, rfl⟩; exact ⟨k2 + 1, by omega, by go_num, HK4⟩)
            case measure => simp [intOf]; omega
          · have HK4 : Hid (KO w0.heap.size w0 w1.heap.size (.slice (some ⟨kb, koff, none⟩) K.length kc) K w3 u9 (ids ++ kinK L d (K.take (k2 + 1)))) := by
              show KO ..
              rw [Hks.out, Hchn.out, hany]
              simpa using HK3.out
            clear hany
            go_wp2_with fail
            go_roundw
            case rel => first | exact ⟨k2 + 1, by omega, by go_num, HK4⟩ | ((repeat apply Exists.intro); refine ⟨?_, rfl⟩; exact ⟨k2 + 1, by omega, by go_num, HK4⟩)
            case measure => simp [intOf]; omega
        · have hk2l : k2 = K.length := by omega
          have HO : Hid (wr.ownsRow w0.heap.size 9 1 u9 (kinAll L d p (paths.take (k + 1))).length (nmS (kinAll L d p (paths.take (k + 1))))) := by
            rw [hk2l, List.take_length] at hko
            show World.ownsRow ..
            rw [Hsn.out]
            exact hko.out.own
          have HBw : Hid (Below w0.heap.size w0 wr) := hko.out.bel
          clear hk2l hko
          go_wp2_with fail
          go_roundw
          case rel => first | exact ⟨k + 1, by omega, by go_num, HO, HBw.out⟩ | ((repeat apply Exists.intro); refine ⟨?_, rfl⟩; exact ⟨k + 1, by omega, by go_num, HO, HBw.out⟩)
          case measure => simp [intOf]; omega
    · have hkl : k = paths.length := by omega
      rw [hkl, List.take_length] at hown
      have HNam := nam_of_owns hown.out
      have hlt7 := kinAll_lt L HG.out hlen d p hp paths
      have hal : (kinAll L d p paths).length ≤ 4194304 := by
        have := kinAll_len L HG.out hlen d p hp paths HP3.out
        omega
      generalize hids : kinAll L d p paths = ids at *
      have HIDS : Hid (kinAll L d p paths = ids) := hids
      clear hids
      have HS : Hid (Calls Ybaf.prog 44 #[u9] wr fun e w' => e = .returned (.tuple #[]) ∧ Below w0.heap.size wr w' ∧ ∃ qs : List Nat, (∀ q, q ∈ qs ↔ q ∈ ids) ∧ qs.length = ids.length ∧ Nam w0.heap.size w' u9 qs) := sortN_any w0.heap.size u9 ids wr HNam hlt7 (by omega)
      have Hlt7 : Hid (∀ q ∈ ids, q < 7) := hlt7
      clear HNam hlt7 hown c4 c7 hbl hwr hkl
      go_wp2_with fail
      refine HS.out.mono ?_
      rintro e w5 ⟨rfl, hb5, qs, hmem, hql, hnam⟩
      have HC : Hid (Calls Ybaf.prog 53 #[u9] w5 fun e w' => ∃ (v' : Value) (qs' : List Nat), e = .returned v' ∧ Below w0.heap.size w5 w' ∧ (∀ q, q ∈ qs' ↔ q ∈ qs) ∧ qs'.length ≤ qs.length ∧ Strs (w0.heap.size ≤ ·) w' v' (qs'.map nameOf)) := compactN_any w0.heap.size u9 qs w5 hnam (fun q hq => Hlt7.out q ((hmem q).1 hq)) (by omega)
      have HB5 : Hid (Below w0.heap.size w0 w5) := HBL.out.trans hb5
      have Hmem : Hid (∀ q, q ∈ qs ↔ q ∈ ids) := hmem
      clear hb5 hmem hnam HS
      go_wp2_with fail
      refine HC.out.mono ?_
      rintro e w6 ⟨v', qs', rfl, hb6, hmem6, hl6, hstr⟩
      have HB6 : Hid (Below w.heap.size w w6) := HB0.out.trans ((HB5.out.trans hb6).mono (by rw [HS0.out]; omega))
      have HF : Hid (∀ q, q ∈ qs' ↔ q ∈ ids) := fun q => (hmem6 q).trans (Hmem.out q)
      have HST : Hid (Strs (w.heap.size ≤ ·) w6 v' (qs'.map nameOf)) := hstr.mono (fun b hb _ => by rw [HS0.out] at hb; omega)
      clear hb6 hmem6 hstr HC
      go_wp2_with fail
      go_ret
      exact ⟨⟨_, qs', rfl, fun q => by rw [HIDS.out]; exact HF.out q, by omega, HST.out⟩, HB6.out⟩

def kinOnB (L : List Rel) (d : Int) (p : Nat) (paths : List (List Nat)) (kin : List Nat) : Bool := (kinAll L d p paths).any fun k => kin.any fun q => k == q

theorem any_iff {xs ys : List Nat} (P : Nat → Bool) (h : ∀ q, q ∈ xs ↔ q ∈ ys) : xs.any P = ys.any P := by
  rw [Bool.eq_iff_iff]
  simp only [List.any_eq_true]
  exact ⟨fun ⟨x, hx, hp⟩ => ⟨x, (h x).1 hx, hp⟩, fun ⟨x, hx, hp⟩ => ⟨x, (h x).2 hx, hp⟩⟩

set_option maxRecDepth 100000 in
set_option maxHeartbeats 2000000 in
theorem familyOf_any {ok ok' ok'' : Nat → Prop} (rb p : Nat) (L : List Rel) (d : Int) (ov pv : Value) (c0 c1 c3 c4 c5 c6 c7 c8 : Value) (kin : List Nat) (paths : List (List Nat)) (w : World) (h : Reg ok w rb L) (hp : p < 7)
    (ho : Strs ok'' w ov (kin.map nameOf)) (hol : kin.length ≤ 1000000) (hoq : ∀ q ∈ kin, q < 7)
    (hpv : Paths ok' w pv paths) (hpl : paths.length ≤ 16) (hp3 : ∀ path ∈ paths, path.length ≤ 3) (hps : ∀ path ∈ paths, ∀ s ∈ path, s < 5) :
    Calls Ybaf.prog 28 #[.pointer (some ⟨rb, 0, none⟩), .string (nameOf p), ov, .int .i32 d, .agg #[c0, c1, pv, c3, c4, c5, c6, c7, c8]] w fun e w' => e = .returned (.bool (kinOnB L d p paths kin)) ∧ Below w.heap.size w w' := by
  have hK : Hid (∀ W, Below w.heap.size w W → Calls Ybaf.prog 41 #[.pointer (some ⟨rb, 0, none⟩), .string (nameOf p), pv, .int .i32 d] W fun e w' => (∃ (v' : Value) (qs : List Nat), e = .returned v' ∧ (∀ q, q ∈ qs ↔ q ∈ kinAll L d p paths) ∧ qs.length ≤ 4194304 ∧ Strs (W.heap.size ≤ ·) w' v' (qs.map nameOf)) ∧ Below W.heap.size W w') := fun W hW =>
    kinOn_any rb p L d pv paths W (h.keep (fun b hok hlt => ⟨hW.block b hlt, hok⟩) hW.size) hp (hpv.lift hW) hpl hp3 hps
  have HL7 : Hid (∀ q ∈ kinAll L d p paths, q < 7) := kinAll_lt L h.good h.len d p hp paths
  have HO : Hid (Strs ok'' w ov (kin.map nameOf)) := ho
  have HQ : Hid (∀ q ∈ kin, q < 7) := hoq
  obtain ⟨oa, oc, rfl⟩ := Strs.formN ho
  obtain ⟨pa, pc, rfl⟩ : ∃ a c, pv = .slice a paths.length c := by
    obtain ⟨_, hr, _⟩ := hpv
    exact hr.form
  clear h ho hpv hp3 hps hoq
  generalize nameOf p = s at *
  go_enter Ybaf.func28, Ybaf.ntmps28
  go_wp2_with fail
  have hbl : Below w.heap.size w ((w.alloc (.cells #[.slice oa kin.length oc] 47)).alloc (.cells #[c0, c1, .slice pa paths.length pc, c3, c4, c5, c6, c7, c8] 62)) := ((Below.refl _ w).alloc (Nat.le_refl _) _).alloc (by simp) _
  have hk1 : ((w.alloc (.cells #[.slice oa kin.length oc] 47)).alloc (.cells #[c0, c1, .slice pa paths.length pc, c3, c4, c5, c6, c7, c8] 62)).cell? ⟨w.heap.size, 0, none⟩ = some (.slice oa kin.length oc) := by go_simp
  have hsz : w.heap.size < ((w.alloc (.cells #[.slice oa kin.length oc] 47)).alloc (.cells #[c0, c1, .slice pa paths.length pc, c3, c4, c5, c6, c7, c8] 62)).heap.size := by simp; omega
  generalize ((w.alloc (.cells #[.slice oa kin.length oc] 47)).alloc (.cells #[c0, c1, .slice pa paths.length pc, c3, c4, c5, c6, c7, c8] 62)) = w0 at *
  refine (hK.out _ hbl).mono ?_
  rintro e w1 ⟨⟨v', qs, rfl, hmem, hql, hstr⟩, hb1⟩
  have hbw : Below w.heap.size w w1 := hbl.trans (hb1.mono hbl.size)
  have hk1' := (hb1.cell (p := ⟨w.heap.size, 0, none⟩) hsz).trans hk1
  have HG : Hid (Calls Ybaf.prog 40 #[v', .func (.func 42) #[] #[.pointer (some ⟨w.heap.size, 0, none⟩)]] w1 fun e w' => e = .returned (.bool (kinOnB L d p paths kin)) ∧ Below w1.heap.size w1 w') := by
    have h := containsG_any v' qs (fun k => kin.any fun q => k == q) (.pointer (some ⟨w.heap.size, 0, none⟩)) w1 hstr (by omega) (fun x hx W hW =>
      family1_any x w.heap.size (.slice oa kin.length oc) kin W (HL7.out x ((hmem x).1 hx)) (HO.out.lift (hbw.trans (hW.mono hbw.size))) hol HQ.out ((hW.cell (p := ⟨w.heap.size, 0, none⟩) (Nat.lt_of_lt_of_le hsz hb1.size)).trans hk1'))
    rw [any_iff _ hmem] at h
    exact h
  have HB1 : Hid (Below w.heap.size w w1) := hbw
  clear hmem hstr hb1 hbw hk1 hk1' hsz hbl
  go_wp2_with fail
  refine HG.out.mono ?_
  rintro e w2 ⟨rfl, hb2⟩
  have HB2 : Hid (Below w.heap.size w w2) := HB1.out.trans (hb2.mono HB1.out.size)
  clear hb2
  go_wp2_with fail
  go_ret
  exact ⟨rfl, HB2.out⟩
end Go.Proofs.YbulkcfwsFmt
