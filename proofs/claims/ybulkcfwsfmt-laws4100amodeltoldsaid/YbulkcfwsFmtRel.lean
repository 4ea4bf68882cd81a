import Derived.Test.YbulkcfwsFmtTies
import Derived.Test.YbulkcfwsFmtReach
import Derived.Test.YbulkcfwsFmtKinOn
namespace Go.Proofs.YbulkcfwsFmt
open Go.RowKit

theorem ctlOn_any {ok : Nat → Prop} (rb c : Nat) (L : List Rel) (d : Int) (w : World) (h : Reg ok w rb L) (hc : c < 7) (hd : d ≠ 0) :
    ∀ (up : Bool) (W : World) (fv : Value), Below w.heap.size w W → Strs AnyB W fv ([c].map nameOf) → Calls Ybaf.prog 32 #[.pointer (some ⟨rb, 0, none⟩), fv, .int .i32 d, .bool up] W (CtlTo L d up c W) := fun up W fv hW hf =>
  controlOn_any rb c L d up fv W (callsIn_wide.1 (reach_in rb c L d up fv W (h.keep (fun b hok hlt => ⟨hW.block b hlt, hok⟩) hW.size) hc hd hf))

def roleIn (rs : List Nat) (r : Nat) : Bool := rs.any fun x => r == x

theorem any_roles (p : Nat) (hp : p < 5) (qs : List Nat) (hq : ∀ q ∈ qs, q < 5) : ((qs.map roleOf).any fun s => (roleOf p).toList == s.toList) = roleIn qs p := by
  unfold roleIn
  induction qs with
  | nil => rfl
  | cons q qs ih =>
    rw [List.map_cons, List.any_cons, List.any_cons, ih (fun q hq' => hq q (List.mem_cons_of_mem _ hq')), role_eq p q hp (hq q List.mem_cons_self)]

/-- What relation i adds to those whose family counts. -/
def kinAdd (L : List Rel) (d : Int) (rs : List Nat) (i : Nat) : List Nat := if ((L.getD i r0).on d && roleIn rs (L.getD i r0).ro) = true then [(L.getD i r0).fr] else []
def kinOrg (L : List Rel) (d : Int) (rs : List Nat) (o : Nat) : List Nat := (toIdx L o).flatMap (kinAdd L d rs)
def kinOf (L : List Rel) (d : Int) (rs orgs : List Nat) : List Nat := orgs ++ orgs.flatMap (kinOrg L d rs)

theorem kinAdd_lt (L : List Rel) (hg : ∀ i, i < L.length → (L.getD i r0).ok) (d : Int) (rs : List Nat) (i : Nat) (hi : i < L.length) : ∀ q ∈ kinAdd L d rs i, q < 7 := by
  intro q hq
  unfold kinAdd at hq
  split at hq
  · rw [List.mem_singleton] at hq
    obtain ⟨_, h2, _⟩ := hg i hi
    omega
  · simp at hq

theorem kinOrg_lt (L : List Rel) (hg : ∀ i, i < L.length → (L.getD i r0).ok) (d : Int) (rs : List Nat) (o : Nat) : ∀ q ∈ kinOrg L d rs o, q < 7 := by
  intro q hq
  obtain ⟨i, hi, hq⟩ := List.mem_flatMap.1 hq
  exact kinAdd_lt L hg d rs i (toIdx_lt L o i hi) q hq

theorem kinOrg_len (L : List Rel) (hL : L.length ≤ 32) (d : Int) (rs : List Nat) (o : Nat) : (kinOrg L d rs o).length ≤ 32 := by
  have := flatMap_len_le (toIdx L o) (kinAdd L d rs) 1 (fun i _ => by unfold kinAdd; split <;> simp)
  have h2 := toIdx_len L o
  unfold kinOrg
  omega

def relB (L : List Rel) (d : Int) (c : Nat) (us orgs kin : List Nat) (paths : List (List Nat)) (p : Nat) : Bool :=
  p == c || us.any (fun q => p == q) || officeAtB L d orgs p || kinOnB L d p paths kin

/-- What RelatedToDeal hands back. -/
structure RelTo (L : List Rel) (d : Int) (c : Nat) (rs ps : List Nat) (paths : List (List Nat)) (w : World) (v : Value) (us ds : List Nat) (w' : World) : Prop where
  mu : ∀ q, q ∈ us ↔ Reach L d true c q ∧ q ≠ c ∧ q ≠ 0
  md : ∀ q, q ∈ ds ↔ Reach L d false c q ∧ q ≠ c ∧ q ≠ 0
  own : w'.ownsRow w.heap.size 9 1 v (ps.filter (relB L d c us (c :: us ++ ds) (kinOf L d rs (c :: us)) paths)).length (nmS (ps.filter (relB L d c us (c :: us ++ ds) (kinOf L d rs (c :: us)) paths)))
  bel : Below w.heap.size w w'

theorem cloneN {ok : Nat → Prop} (W : World) (v : Value) (ps : List Nat) (h : Strs ok W v (ps.map nameOf)) (hn : 0 < ps.length) (hl : ps.length ≤ 1000) :
    Calls Ybaf.prog 22 #[v] W fun e w' => ∃ v', e = .returned v' ∧ w'.ownsRow W.heap.size 9 1 v' ps.length (nmS ps) ∧ Below W.heap.size W w' := by
  obtain ⟨b, off, cap, rfl, _, hb, hc⟩ := Row.cell h (by simpa using hn)
  have hl' : (ps.map nameOf).length = ps.length := by simp
  rw [hl']
  refine (Ybaf.slices_Clone_string b off ps.length cap (ps.map nameOf) W (by simp) (by omega) (fun j hj => hc j _ ?_)).mono ?_
  · rw [List.getElem?_map]
    rw [List.getElem?_eq_getElem hj]
    simp [List.getD, List.getElem?_eq_getElem hj]
  · rintro e w' ⟨v', rfl, hown, _, hb'⟩
    refine ⟨v', rfl, ?_, hb'⟩
    have e2 : ((ps.map nameOf).take ps.length).map Value.string = nmS ps := by
      rw [List.take_of_length_le (by simp)]
      simp [nmS]
    rw [e2] at hown
    exact hown

theorem filter_snoc (P : Nat → Bool) (xs : List Nat) (k : Nat) (hk : k < xs.length) : (xs.take (k + 1)).filter P = (xs.take k).filter P ++ (if P xs[k] = true then [xs[k]] else []) := by
  rw [List.take_succ_eq_append_getElem hk, List.filter_append]
  congr 1
  cases e : P xs[k] <;> simp [e]

theorem box9 {W : World} {b : Nat} {c0 c1 c2 c3 c4 c5 c6 c7 c8 : Value} (h : W.heap[b]? = some (.cells #[c0, c1, c2, c3, c4, c5, c6, c7, c8] 62)) : W.cell? ⟨b, 0, none⟩ = some c0 ∧ W.cell? ⟨b, 1, none⟩ = some c1 ∧ W.cell? ⟨b, 2, none⟩ = some c2 ∧ W.cell? ⟨b, 3, none⟩ = some c3 ∧ W.cell? ⟨b, 4, none⟩ = some c4 ∧ W.cell? ⟨b, 5, none⟩ = some c5 ∧ W.cell? ⟨b, 6, none⟩ = some c6 ∧ W.cell? ⟨b, 7, none⟩ = some c7 ∧ W.cell? ⟨b, 8, none⟩ = some c8 := by
  simp [World.cell?, h]

theorem owns_base {w : World} {B B' : Nat} {e : TypeId} {m : Nat} {v : Value} {n : Nat} {cs : List Value} (h : w.ownsRow B e m v n cs) (hb : B' ≤ B) : w.ownsRow B' e m v n cs := by
  obtain ⟨hl, h⟩ := h
  refine ⟨hl, ?_⟩
  rcases h with h | ⟨g, cap, cur, rfl, hB, r⟩
  · exact .inl h
  · exact .inr ⟨g, cap, cur, rfl, Nat.le_trans hb hB, r⟩

theorem nmS_len (ids : List Nat) : (nmS ids).length = ids.length := by simp [nmS]

set_option maxRecDepth 100000 in
set_option maxHeartbeats 4000000 in
theorem related_any {ok ok1 ok2 ok3 : Nat → Prop} (rb c : Nat) (L : List Rel) (d : Int) (pv fv rv : Value) (c0 c1 c3 c4 c5 c6 c7 c8 : Value) (ps rs : List Nat) (paths : List (List Nat)) (w : World) (h : Reg ok w rb L) (hc : c < 7) (hd : d ≠ 0)
    (hp : Strs ok1 w pv (ps.map nameOf)) (hpl : ps.length ≤ 1024) (hpq : ∀ q ∈ ps, q < 7)
    (hf : Paths ok2 w fv paths) (hfl : paths.length ≤ 16) (hf3 : ∀ path ∈ paths, path.length ≤ 3) (hf5 : ∀ path ∈ paths, ∀ s ∈ path, s < 5)
    (hr : Strs ok3 w rv (rs.map roleOf)) (hrl : rs.length ≤ 1024) (hrq : ∀ q ∈ rs, q < 5) :
    Calls Ybaf.prog 15 #[.pointer (some ⟨rb, 0, none⟩), .string (nameOf c), .int .i32 d, pv, .agg #[c0, c1, fv, c3, c4, c5, c6, c7, c8], rv] w fun e w' => ∃ v us ds, e = .returned v ∧ RelTo L d c rs ps paths w v us ds w' := by
  have HTies : Hid (∀ W, Below w.heap.size w W → Calls Ybaf.prog 21 #[.pointer (some ⟨rb, 0, none⟩), .string (nameOf c), .int .i32 d] W fun e w' => ∃ v0 v1 v2 us ds, e = .returned (.agg #[v0, v1, v2]) ∧ TieTo L d c W v0 v1 v2 us ds w') := fun W hW =>
    tiesTo_any rb c L d W (ctlOn_any rb c L d W (h.keep (fun b hok hlt => ⟨hW.block b hlt, hok⟩) hW.size) hc hd)
  have H : Hid (Reg (· < w.heap.size) w rb L) := h.self
  have HG : Hid (∀ i, i < L.length → (L.getD i r0).ok) := h.good
  have hlen := h.len
  have HP : Hid (Strs ok1 w pv (ps.map nameOf)) := hp
  have HR : Hid (Strs ok3 w rv (rs.map roleOf)) := hr
  have HF : Hid (Paths ok2 w fv paths) := hf
  have HPQ : Hid (∀ q ∈ ps, q < 7) := hpq
  have HRQ : Hid (∀ q ∈ rs, q < 5) := hrq
  have HF3 : Hid (∀ path ∈ paths, path.length ≤ 3) := hf3
  have HF5 : Hid (∀ path ∈ paths, ∀ s ∈ path, s < 5) := hf5
  obtain ⟨pa, pc, rfl⟩ := hp.formS
  obtain ⟨ra, rc, rfl⟩ := Strs.formN hr
  obtain ⟨fa, fc, rfl⟩ : ∃ a c, fv = .slice a paths.length c := by
    obtain ⟨_, hr, _⟩ := hf
    exact hr.form
  obtain ⟨i0, hi0, hz0, hz1, hz2⟩ := info_parts info9
  clear h hp hr hf hpq hrq hf3 hf5
  generalize hnc : nameOf c = nc at *
  have Hnc : Hid (nameOf c = nc) := hnc
  clear hnc
  go_enter Ybaf.func15, Ybaf.ntmps15
  go_wp2_with fail
  have hb0 := (Below.refl w.heap.size w).alloc (Nat.le_refl _) (.cells #[c0, c1, .slice fa paths.length fc, c3, c4, c5, c6, c7, c8] 62)
  have hk10 : (w.alloc (.cells #[c0, c1, .slice fa paths.length fc, c3, c4, c5, c6, c7, c8] 62)).heap[w.heap.size]? = some (.cells #[c0, c1, .slice fa paths.length fc, c3, c4, c5, c6, c7, c8] 62) := World.alloc_heap_new w _
  refine (HTies.out _ hb0).mono ?_
  rintro e w1 ⟨v0, v1, v2, us, ds, rfl, ht⟩
  have hbw1 : Below w.heap.size w w1 := hb0.trans (ht.bel.mono hb0.size)
  have hk10' : w1.heap[w.heap.size]? = some (.cells #[c0, c1, .slice fa paths.length fc, c3, c4, c5, c6, c7, c8] 62) := (ht.bel.block _ (by simp)).trans hk10
  obtain ⟨a0, x0, rfl⟩ := ht.s0.formS
  obtain ⟨a1, x1, rfl⟩ : ∃ a x, v1 = .slice a (us.length + 1) x := ht.s1.formS
  obtain ⟨a2, x2, rfl⟩ : ∃ a x, v2 = .slice a (us.length + ds.length + 1) x := by
    obtain ⟨a, x, e⟩ := ht.s2.formS
    exact ⟨a, x, by rw [e]; simp⟩
  have HT : Hid (TieTo L d c _ _ _ _ us ds w1) := ht
  have hlu := ht.lu.2
  have hld := ht.ld.2
  have HBW1 : Hid (Below w.heap.size w w1) := hbw1
  have HK10 : Hid (w1.heap[w.heap.size]? = some (.cells #[c0, c1, .slice fa paths.length fc, c3, c4, c5, c6, c7, c8] 62)) := hk10'
  clear ht hb0 hk10 hbw1 hk10'
  go_wp2_with fail
  have hbB : Below w1.heap.size w1 (w1.alloc (.cells #[.slice a0 us.length x0, .slice a1 (us.length + 1) x1, .slice a2 (us.length + ds.length + 1) x2] 78)) := (Below.refl _ w1).alloc (Nat.le_refl _) _
  have htri : Tri (w1.alloc (.cells #[.slice a0 us.length x0, .slice a1 (us.length + 1) x1, .slice a2 (us.length + ds.length + 1) x2] 78)) w1.heap.size (.slice a0 us.length x0) (.slice a1 (us.length + 1) x1) (.slice a2 (us.length + ds.length + 1) x2) := tri_new w1 _ _ _
  generalize (w1.alloc (.cells #[.slice a0 us.length x0, .slice a1 (us.length + 1) x1, .slice a2 (us.length + ds.length + 1) x2] 78)) = wB at *
  have HTri : Hid (Tri wB w1.heap.size (.slice a0 us.length x0) (.slice a1 (us.length + 1) x1) (.slice a2 (us.length + ds.length + 1) x2)) := htri
  have HS0 : Hid (Strs (· < wB.heap.size) wB (.slice a0 us.length x0) (us.map nameOf)) := (HT.out.s0.lift hbB).mono (fun _ _ hlt => hlt)
  have HS1 : Hid (Strs (· < wB.heap.size) wB (.slice a1 (us.length + 1) x1) ((c :: us).map nameOf)) := (HT.out.s1.lift hbB).mono (fun _ _ hlt => hlt)
  have HS2 : Hid (Strs (· < wB.heap.size) wB (.slice a2 (us.length + ds.length + 1) x2) ((c :: us ++ ds).map nameOf)) := (HT.out.s2.lift hbB).mono (fun _ _ hlt => hlt)
  have HBB : Hid (Below w.heap.size w wB) := HBW1.out.trans (hbB.mono HBW1.out.size)
  have HKB : Hid (wB.heap[w.heap.size]? = some (.cells #[c0, c1, .slice fa paths.length fc, c3, c4, c5, c6, c7, c8] 62)) := (hbB.block _ (Array.getElem?_eq_some_iff.1 HK10.out).1).trans HK10.out
  have HMU : Hid (∀ q, q ∈ us ↔ Reach L d true c q ∧ q ≠ c ∧ q ≠ 0) := HT.out.mu
  have HMD : Hid (∀ q, q ∈ ds ↔ Reach L d false c q ∧ q ≠ c ∧ q ≠ 0) := HT.out.md
  have HLU : Hid (∀ q ∈ us, q < 7) := HT.out.lu.1
  have HLD : Hid (∀ q ∈ ds, q < 7) := HT.out.ld.1
  clear HT hbB htri HK10 HBW1
  refine (cloneN wB _ (c :: us) HS1.out (by simp) (by simp; omega)).mono ?_
  rintro e w2 ⟨v14, rfl, hown, hb2⟩
  have HO2 : Hid (w2.ownsRow wB.heap.size 9 1 v14 (c :: us).length (nmS (c :: us))) := hown
  have HB2 : Hid (Below wB.heap.size wB w2) := hb2
  have t131 := (HTri.out.below hb2).cell.2.1
  have l13 := (HTri.out.below hb2).lt
  clear hown hb2
  go_wp2_with fail
  clear t131
  go_loopw [14, 33] (fun v i wr => ∃ k : Nat, k ≤ us.length + 1 ∧ i = .int .i64 k ∧ Hid (wr.ownsRow wB.heap.size 9 1 v ((c :: us) ++ ((c :: us).take k).flatMap (kinOrg L d rs)).length (nmS ((c :: us) ++ ((c :: us).take k).flatMap (kinOrg L d rs)))) ∧ Hid (Below wB.heap.size wB wr)) (fun _ i _ => us.length + 1 - (intOf i).toNat)
  case atStart => exact ⟨0, Nat.zero_le _, rfl, by simpa using HO2, HB2⟩
  case round =>
    obtain ⟨k, hk, rfl, hown, hbl⟩ := hrel
    by_cases hlt : k < us.length + 1
    · obtain ⟨ob, ooff, ocap, hoe, hob, -, hoc⟩ := Row.cell HS1.out (by simp)
      have hoe' : a1 = some ⟨ob, ooff, none⟩ ∧ x1 = ocap := by simpa using hoe
      obtain ⟨rfl, rfl⟩ := hoe'
      have hltk : k < (c :: us).length := by simpa using hlt
      have hcell : wr.cell? ⟨ob, ooff + k, none⟩ = some (.string (nameOf ((c :: us).getD k 0))) := (hbl.out.cell (p := ⟨ob, ooff + k, none⟩) hob).trans (hoc k _ (by rw [List.map_map, List.getElem?_map, List.getElem?_eq_getElem hltk]; simp [List.getD, List.getElem?_eq_getElem hltk]))
      have ho7 : (c :: us).getD k 0 < 7 := by
        have hm : (c :: us).getD k 0 ∈ c :: us := by
          simp only [List.getD, List.getElem?_eq_getElem hltk, Option.getD_some]
          exact List.getElem_mem hltk
        rcases List.mem_cons.1 hm with e | e
        · omega
        · exact HLU.out _ e
      have Hsn : Hid ((c :: us) ++ ((c :: us).take (k + 1)).flatMap (kinOrg L d rs) = ((c :: us) ++ ((c :: us).take k).flatMap (kinOrg L d rs)) ++ kinOrg L d rs ((c :: us).getD k 0)) := by
        show _ = _
        rw [List.take_succ_eq_append_getElem hltk, List.flatMap_append]
        simp [List.getD, List.getElem?_eq_getElem hltk]
      have hkl : ((c :: us) ++ ((c :: us).take k).flatMap (kinOrg L d rs)).length ≤ 1000 := by
        rw [List.length_append]
        have h1 := flatMap_len_le ((c :: us).take k) (kinOrg L d rs) 32 (fun o _ => kinOrg_len L hlen d rs o)
        have h2 : ((c :: us).take k).length ≤ 8 := by simp; omega
        simp only [List.length_cons]
        omega
      generalize (c :: us) ++ ((c :: us).take k).flatMap (kinOrg L d rs) = kk at *
      generalize (c :: us).getD k 0 = o at *
      have hwr : Below w.heap.size w wr := HBB.out.trans (hbl.out.mono HBB.out.size)
      have HT23 : Hid (Calls Ybaf.prog 23 #[.pointer (some ⟨rb, 0, none⟩), .string (nameOf o)] wr fun e w' => (∃ v', e = .returned v' ∧ Ints (· < w.heap.size) wr v' (ofNats (toIdx L o))) ∧ w' = wr) := to_any rb o L wr (H.out.below hwr) ho7
      generalize nameOf o = no at *
      obtain ⟨wk, rfl⟩ : ∃ wk : World, wk = wr := ⟨_, rfl⟩
      clear hoc hwr hoe
      go_wp2_with fail
      refine HT23.out.mono ?_
      rintro e wk' ⟨⟨v39, rfl, hI⟩, hwk⟩
      have hwk' := hwk.symm
      subst hwk'
      have HI : Hid (∀ W, Below w.heap.size w W → Ints (· < w.heap.size) W v39 (ofNats (toIdx L o))) := fun W hW => Row.move hI (fun b hb => (hW.block b hb).trans ((HBB.out.trans (hbl.out.mono HBB.out.size)).block b hb).symm) hW.size
      obtain ⟨va, vc, rfl⟩ := Row.form hI
      clear hI hwk HT23
      rw [show (ofNats (toIdx L o)).length = (toIdx L o).length by simp [ofNats]] at *
      have hfl2 : (toIdx L o).length ≤ 32 := Nat.le_trans (toIdx_len L o) hlen
      have HKO : Hid _ := hown
      go_wp2_with fail
      go_loopw [14, 41] (fun v i wr => ∃ j : Nat, j ≤ (toIdx L o).length ∧ i = .int .i64 j ∧ Hid (wr.ownsRow wB.heap.size 9 1 v (kk ++ ((toIdx L o).take j).flatMap (kinAdd L d rs)).length (nmS (kk ++ ((toIdx L o).take j).flatMap (kinAdd L d rs)))) ∧ Hid (Below wB.heap.size wB wr)) (fun _ i _ => (toIdx L o).length - (intOf i).toNat)
      case atStart => exact ⟨0, Nat.zero_le _, rfl, by simpa using hown, hbl⟩
      case round =>
        obtain ⟨j, hj, rfl, hownj, hblj⟩ := hrel
        by_cases hltj : j < (toIdx L o).length
        · have hwr : Below w.heap.size w wr := HBB.out.trans (hblj.out.mono HBB.out.size)
          obtain ⟨ib, ioff, icap, hie, hib, -, hic⟩ := Row.cell (HI.out wr hwr) (by simp [ofNats]; omega)
          simp only [Value.slice.injEq] at hie
          obtain ⟨rfl, -, rfl⟩ := hie
          have hcellj : wr.cell? ⟨ib, ioff + j, none⟩ = some (.int .i64 ((toIdx L o)[j] : Nat)) := hic j _ (by simp [ofNats, List.getElem?_eq_getElem hltj])
          have Htk2 : Hid (kk ++ ((toIdx L o).take (j + 1)).flatMap (kinAdd L d rs) = (kk ++ ((toIdx L o).take j).flatMap (kinAdd L d rs)) ++ kinAdd L d rs (toIdx L o)[j]) := by
            show _ = _
            rw [List.take_succ_eq_append_getElem hltj, List.flatMap_append]
            simp
          have hi := toIdx_lt L o _ (List.getElem_mem hltj)
          have hkjl : (kk ++ ((toIdx L o).take j).flatMap (kinAdd L d rs)).length ≤ 1100 := by
            rw [List.length_append]
            have h1 := flatMap_len_le ((toIdx L o).take j) (kinAdd L d rs) 1 (fun i _ => by unfold kinAdd; split <;> simp)
            have h2 : ((toIdx L o).take j).length ≤ 32 := by simp; omega
            omega
          generalize kk ++ ((toIdx L o).take j).flatMap (kinAdd L d rs) = kj at *
          generalize (toIdx L o)[j] = i at *
          have hR : Reg (· < w.heap.size) wr rb L := H.out.below hwr
          obtain ⟨rb2, roff, rcap, hc2, -, hb2, hcs⟩ := hR.cells hi
          have hltr := hR.ltr
          obtain ⟨hty, hfr, hto, hro, hti⟩ := HG.out i hi
          have Hf : Hid (kinAdd L d rs i = if ((L.getD i r0).on d && roleIn rs (L.getD i r0).ro) = true then [(L.getD i r0).fr] else []) := rfl
          clear hR hic
          generalize L.getD i r0 = x at *
          have x0' := hcs 0 _ rfl
          have x1' := hcs 1 _ rfl
          have x2' := hcs 2 _ rfl
          have x3' := hcs 3 _ rfl
          have x4' := hcs 4 _ rfl
          have x5' := hcs 5 _ rfl
          have x6' := hcs 6 _ rfl
          have x7' := hcs 7 _ rfl
          have x8' := hcs 8 _ rfl
          have x9' := hcs 9 _ rfl
          simp only [← Nat.add_assoc, Nat.add_zero] at x0' x1' x2' x3' x4' x5' x6' x7' x8' x9'
          have hH : Hid (∀ W, Calls Ybaf.prog 24 #[.agg #[.string (idOf i), .string (typeOf x.ty), .string (nameOf x.fr), .string (nameOf x.to), .int .i32 x.st, .int .i32 x.en, .string (roleOf x.ro), .int .i64 0, .pointer none, .string (tieOf x.ti)], .int .i32 d] W fun e w' => e = .returned (.bool (x.on d)) ∧ Below W.heap.size W w') := fun W => holdsOn_any i x d W
          have HC25 : Hid (∀ W, Below w.heap.size w W → Calls Ybaf.prog 25 #[.slice ra rs.length rc, .string (roleOf x.ro)] W fun e w' => e = .returned (.bool (roleIn rs x.ro)) ∧ w' = W) := fun W hW => by
            rw [← any_roles x.ro hro rs HRQ.out]
            exact containsR_any _ _ _ W (HR.out.lift hW) (by simp; omega)
          clear hcs
          generalize idOf i = s0 at *
          generalize typeOf x.ty = s1 at *
          generalize tieOf x.ti = s9 at *
          generalize roleOf x.ro = s6 at *
          generalize nameOf x.to = s3 at *
          generalize hs2 : nameOf x.fr = s2 at *
          have Hs2 : Hid (nameOf x.fr = s2) := hs2
          clear hs2
          have hbx := (Below.refl wr.heap.size wr).alloc (Nat.le_refl _) (.cells #[.string s0, .string s1, .string s2, .string s3, .int .i32 x.st, .int .i32 x.en, .string s6, .int .i64 0, .pointer none, .string s9] 43)
          have HBX : Hid (Below wr.heap.size wr (wr.alloc (.cells #[.string s0, .string s1, .string s2, .string s3, .int .i32 x.st, .int .i32 x.en, .string s6, .int .i64 0, .pointer none, .string s9] 43))) := hbx
          have HWR : Hid (Below w.heap.size w wr) := hwr
          clear hbx hwr
          go_wp2_with fail
          refine (hH.out _).mono ?_
          rintro e w3 ⟨rfl, hb3⟩
          have hbw : Below wr.heap.size wr w3 := HBX.out.trans (hb3.mono HBX.out.size)
          have z6 : w3.cell? ⟨wr.heap.size, 6, none⟩ = some (.string s6) := (hb3.cell (by simp)).trans (by simp)
          have z2 : w3.cell? ⟨wr.heap.size, 2, none⟩ = some (.string s2) := (hb3.cell (by simp)).trans (by simp)
          have hlt3 : wr.heap.size < w3.heap.size := by have := hb3.size; simp at this; omega
          have hbB3 : Below wB.heap.size wB w3 := hblj.out.trans (hbw.mono hblj.out.size)
          have HB3 : Hid (Below wB.heap.size wB w3) := hbB3
          have HO3 : Hid (w3.ownsRow wB.heap.size 9 1 u14 kj.length (nmS kj)) := owns_heap hownj.out (fun g hg => hbw.block g (hownj.out.lt g hg).2)
          have HW3 : Hid (Below w.heap.size w w3) := HWR.out.trans (hbw.mono HWR.out.size)
          clear hb3 hbw hbB3 HBX
          cases hon : x.on d
          · have HO4 : Hid (w3.ownsRow wB.heap.size 9 1 u14 (kk ++ ((toIdx L o).take (j + 1)).flatMap (kinAdd L d rs)).length (nmS (kk ++ ((toIdx L o).take (j + 1)).flatMap (kinAdd L d rs)))) := by
              show World.ownsRow ..
              rw [Htk2.out, Hf.out, hon]
              simpa using HO3.out
            clear hon
            go_wp2_with fail
            go_roundw
            case rel => first | exact ⟨j + 1, by omega, by go_num, HO4, HB3⟩ | ((repeat apply Exists.intro); refine ⟨?_, rfl⟩; exact ⟨j + 1, by omega, by go_num, HO4, HB3⟩)
            case measure => simp [intOf]; omega
          · have Hon : Hid (x.on d = true) := hon
            clear hon
            go_wp2_with fail
            refine (HC25.out _ HW3.out).mono ?_
            rintro e w3' ⟨rfl, hw3'⟩
            have hw3 := hw3'.symm
            subst hw3
            clear hw3'
            cases hrol : roleIn rs x.ro
            · have HO4 : Hid (w3.ownsRow wB.heap.size 9 1 u14 (kk ++ ((toIdx L o).take (j + 1)).flatMap (kinAdd L d rs)).length (nmS (kk ++ ((toIdx L o).take (j + 1)).flatMap (kinAdd L d rs)))) := by
                show World.ownsRow ..
                rw [Htk2.out, Hf.out, hrol]
                simpa using HO3.out
              clear hrol
              go_wp2_with fail
              go_roundw
              case rel => first | exact ⟨j + 1, by omega, by go_num, HO4, HB3⟩ | ((repeat apply Exists.intro); refine ⟨?_, rfl⟩; exact ⟨j + 1, by omega, by go_num, HO4, HB3⟩)
              case measure => simp [intOf]; omega
            · have Hrol : Hid (roleIn rs x.ro = true) := hrol
              clear hrol
              go_wp2_with (at_builtin; refine wpList_append_own_at _ rfl _ _ 47 rfl wB.heap.size 9 i0 _ 1 16 Ybaf.underlying47 hi0 hz0 hz1 hz2 rfl (by decide) u14 kj.length (nmS kj) rfl (HO3.out.alloc _) ⟨w3.heap.size, 0, none⟩ 1 1 [.string s2] rfl rfl (World.news_of_block (cs := #[.string s2]) (t := 9) (fr := (0, 0)) (heap_alloc_new w3 _)) ?c2 ?c3 ?c4 ?c5 ?_)
              case c2 => intro u hu; rw [List.mem_singleton] at hu; subst hu; rfl
              case c3 => unfold maxLen; omega
              case c4 => omega
              case c5 => have := HB3.out.size; simp; omega
              intro v' w4 hown' hgrow' _ _
              have HB4 : Hid (Below wB.heap.size wB w4) := (HB3.out.alloc HB3.out.size _).grown hgrow' (by have := HB3.out.size; simp; omega) (fun k hk => (HO3.out.lt k hk).1)
              have HO4 : Hid (w4.ownsRow wB.heap.size 9 1 v' (kk ++ ((toIdx L o).take (j + 1)).flatMap (kinAdd L d rs)).length (nmS (kk ++ ((toIdx L o).take (j + 1)).flatMap (kinAdd L d rs)))) := by
                show World.ownsRow ..
                rw [Htk2.out, Hf.out, Hon.out, Hrol.out]
                simp only [Bool.and_self, if_true]
                rw [nmS_snoc, List.length_append, Hs2.out]
                exact hown'
              clear hown' hgrow'
              go_wp2_with fail
              go_roundw
              case rel => first | exact ⟨j + 1, by omega, by go_num, HO4, HB4⟩ | ((repeat apply Exists.intro); refine ⟨?_, rfl⟩; exact ⟨j + 1, by omega, by go_num, HO4, HB4⟩)
              case measure => simp [intOf]; omega
        · have hjl : j = (toIdx L o).length := by omega
          have HO4 : Hid (wr.ownsRow wB.heap.size 9 1 u14 ((c :: us) ++ ((c :: us).take (k + 1)).flatMap (kinOrg L d rs)).length (nmS ((c :: us) ++ ((c :: us).take (k + 1)).flatMap (kinOrg L d rs)))) := by
            rw [hjl, List.take_length] at hownj
            show World.ownsRow ..
            rw [Hsn.out]
            exact hownj.out
          clear hjl hownj
          go_wp2_with fail
          go_roundw
          case rel => first | exact ⟨k + 1, by omega, by go_num, HO4, hblj⟩ | ((repeat apply Exists.intro); refine ⟨?_, rfl⟩; exact ⟨k + 1, by omega, by go_num, HO4, hblj⟩)
          case measure => simp [intOf]; omega
    · have hkl : k = us.length + 1 := by omega
      have HKin : Hid (wr.ownsRow wB.heap.size 9 1 u14 (kinOf L d rs (c :: us)).length (nmS (kinOf L d rs (c :: us)))) := by
        have e : (c :: us).take k = c :: us := by rw [hkl]; exact List.take_length (l := c :: us)
        rw [e] at hown
        exact hown
      have hk7 : ∀ q ∈ kinOf L d rs (c :: us), q < 7 := by
        intro q hq
        have hcu : ∀ q ∈ c :: us, q < 7 := by
          intro q hq
          rcases List.mem_cons.1 hq with e | e
          · omega
          · exact HLU.out q e
        rcases List.mem_append.1 hq with hq | hq
        · exact hcu q hq
        · obtain ⟨o, _, hq⟩ := List.mem_flatMap.1 hq
          exact kinOrg_lt L HG.out d rs o q hq
      have hkin1 : (kinOf L d rs (c :: us)).length ≤ 1000 := by
        unfold kinOf
        rw [List.length_append]
        have h1 := flatMap_len_le (c :: us) (kinOrg L d rs) 32 (fun o _ => kinOrg_len L hlen d rs o)
        simp only [List.length_cons] at h1 ⊢
        omega
      have HK7 : Hid (∀ q ∈ kinOf L d rs (c :: us), q < 7) := hk7
      have hkpos : 0 < (kinOf L d rs (c :: us)).length := by simp [kinOf]
      have HSK : Hid (Strs AnyB wr u14 ((kinOf L d rs (c :: us)).map nameOf)) := by
        have h1 := (row_of_owns HKin.out).any
        show Row ..
        simpa [nmS, Strs, Function.comp_def] using h1
      obtain ⟨g14, x14, rfl, -, -⟩ := HKin.out.form hkpos
      generalize hkdef : kinOf L d rs (c :: us) = kin at *
      have HKD : Hid (kinOf L d rs (c :: us) = kin) := hkdef
      have hwr : Below w.heap.size w wr := HBB.out.trans (hbl.out.mono HBB.out.size)
      have HW3 : Hid (Below w.heap.size w wr) := hwr
      have HTW : Hid (Tri wr w1.heap.size (.slice a0 us.length x0) (.slice a1 (us.length + 1) x1) (.slice a2 (us.length + ds.length + 1) x2)) := HTri.out.below hbl.out
      have HKW : Hid (wr.heap[w.heap.size]? = some (.cells #[c0, c1, .slice fa paths.length fc, c3, c4, c5, c6, c7, c8] 62)) := (hbl.out.block _ (Array.getElem?_eq_some_iff.1 HKB.out).1).trans HKB.out
      have HS0W : Hid (Strs AnyB wr (.slice a0 us.length x0) (us.map nameOf)) := (HS0.out.lift hbl.out).any
      have HS2W : Hid (Strs AnyB wr (.slice a2 (us.length + ds.length + 1) x2) ((c :: us ++ ds).map nameOf)) := (HS2.out.lift hbl.out).any
      clear hk7 hkdef hwr hown HKin HO2 HB2 HTri HKB HS0 HS1 HS2 hkl hbl hkpos
      obtain ⟨W3, rfl⟩ : ∃ W3 : World, W3 = wr := ⟨_, rfl⟩
      go_wp2_with fail
      go_loopw [20, 70] (fun v i wr => ∃ k : Nat, k ≤ ps.length ∧ i = .int .i64 k ∧ Hid (wr.ownsRow W3.heap.size 9 1 v ((ps.take k).filter (relB L d c us (c :: us ++ ds) (kinOf L d rs (c :: us)) paths)).length (nmS ((ps.take k).filter (relB L d c us (c :: us ++ ds) (kinOf L d rs (c :: us)) paths)))) ∧ Hid (Below W3.heap.size W3 wr)) (fun _ i _ => ps.length - (intOf i).toNat)
      case atStart => exact ⟨0, Nat.zero_le _, rfl, World.ownsRow_nil W3 _ 9 1, Below.refl _ _⟩
      case round =>
        obtain ⟨kp, hkp, rfl, howp, hblp⟩ := hrel
        by_cases hltp : kp < ps.length
        · obtain ⟨pb, poff, pcap, hpe, -, hpb, hpc⟩ := Row.cell HP.out (by simpa using (show 0 < ps.length by omega))
          have hpe' : pa = some ⟨pb, poff, none⟩ ∧ pc = pcap := by simpa using hpe
          obtain ⟨rfl, rfl⟩ := hpe'
          have hW4 : Below w.heap.size w wr := HW3.out.trans (hblp.out.mono HW3.out.size)
          have hcellp : wr.cell? ⟨pb, poff + kp, none⟩ = some (.string (nameOf ps[kp])) := (hW4.cell (p := ⟨pb, poff + kp, none⟩) hpb).trans (hpc kp _ (by rw [List.map_map, List.getElem?_map, List.getElem?_eq_getElem hltp]; rfl))
          have hp7 := HPQ.out _ (List.getElem_mem hltp)
          have Hsnp : Hid ((ps.take (kp + 1)).filter (relB L d c us (c :: us ++ ds) (kinOf L d rs (c :: us)) paths) = (ps.take kp).filter (relB L d c us (c :: us ++ ds) (kinOf L d rs (c :: us)) paths) ++ (if relB L d c us (c :: us ++ ds) (kinOf L d rs (c :: us)) paths ps[kp] = true then [ps[kp]] else [])) := by
            exact filter_snoc _ ps kp hltp
          have hfl3 : ((ps.take kp).filter (relB L d c us (c :: us ++ ds) (kinOf L d rs (c :: us)) paths)).length ≤ 1024 := by
            have h1 := List.length_filter_le (relB L d c us (c :: us ++ ds) (kinOf L d rs (c :: us)) paths) (ps.take kp)
            have h2 : (ps.take kp).length ≤ kp := by simp; omega
            omega
          generalize (ps.take kp).filter (relB L d c us (c :: us ++ ds) (kinOf L d rs (c :: us)) paths) = acc at *
          generalize ps[kp] = pp at *
          have heq := name_eq pp c hp7 hc
          rw [Hnc.out] at heq
          have HC26 : Hid (∀ W, Below W3.heap.size W3 W → Calls Ybaf.prog 26 #[.slice a0 us.length x0, .string (nameOf pp)] W fun e w' => e = .returned (.bool (us.any fun q => pp == q)) ∧ w' = W) := fun W hW => by
            rw [← any_names pp hp7 us HLU.out]
            exact containsS_any _ _ _ W (HS0W.out.lift hW) (by simp; omega)
          have HC27 : Hid (∀ W, Below W3.heap.size W3 W → Calls Ybaf.prog 27 #[.pointer (some ⟨rb, 0, none⟩), .string (nameOf pp), .slice a2 (us.length + ds.length + 1) x2, .int .i32 d] W fun e w' => e = .returned (.bool (officeAtB L d (c :: us ++ ds) pp)) ∧ Below W.heap.size W w') := fun W hW =>
            officeAt_any rb pp L d _ (c :: us ++ ds) W (H.out.below (HW3.out.trans (hW.mono HW3.out.size))) hp7 (HS2W.out.lift hW) (by simp; omega) (fun q hq => by
              rcases List.mem_append.1 hq with hq | hq
              · rcases List.mem_cons.1 hq with e | e
                · omega
                · exact HLU.out q e
              · exact HLD.out q hq)
          have HC28 : Hid (∀ W, Below W3.heap.size W3 W → Calls Ybaf.prog 28 #[.pointer (some ⟨rb, 0, none⟩), .string (nameOf pp), .slice (some ⟨g14, 0, none⟩) kin.length x14, .int .i32 d, .agg #[c0, c1, .slice fa paths.length fc, c3, c4, c5, c6, c7, c8]] W fun e w' => e = .returned (.bool (kinOnB L d pp paths kin)) ∧ Below W.heap.size W w') := fun W hW => by
            have hW' := HW3.out.trans (hW.mono HW3.out.size)
            exact familyOf_any rb pp L d _ _ c0 c1 c3 c4 c5 c6 c7 c8 kin paths W (H.out.below hW') hp7 (HSK.out.lift hW) (by omega) HK7.out (HF.out.lift hW') hfl HF3.out HF5.out
          have HRB : Hid (relB L d c us (c :: us ++ ds) (kinOf L d rs (c :: us)) paths pp = (pp == c || us.any (fun q => pp == q) || officeAtB L d (c :: us ++ ds) pp || kinOnB L d pp paths kin)) := by
            show _ = _
            rw [← HKD.out]
            rfl
          generalize hnpp : nameOf pp = np at *
          have Hnp : Hid (nameOf pp = np) := hnpp
          have htr := HTW.out.below hblp.out
          have y130 := htr.cell.1
          have y132 := htr.cell.2.2
          have l13' := htr.lt
          have HKW4 : Hid (wr.heap[w.heap.size]? = some (.cells #[c0, c1, .slice fa paths.length fc, c3, c4, c5, c6, c7, c8] 62)) := (hblp.out.block _ (Array.getElem?_eq_some_iff.1 HKW.out).1).trans HKW.out
          have HOW : Hid (wr.ownsRow W3.heap.size 9 1 u20 acc.length (nmS acc)) := howp.out
          clear hpc hpe hW4 hnpp htr howp
          go_upto_region 18 with fail
          go_cut [98] (fun v wc => v = .bool (relB L d c us (c :: us ++ ds) (kinOf L d rs (c :: us)) paths pp) ∧ Below wr.heap.size wr wc)
          case first =>
            cases hpc : (pp == c)
            · rw [hpc] at heq
              have Hpc : Hid ((pp == c) = false) := hpc
              clear hpc
              go_wp2_with fail
              refine (HC26.out _ hblp.out).mono ?_
              rintro e wx ⟨rfl, hx⟩
              have hx' := hx.symm
              subst hx'
              clear hx
              cases hus : us.any (fun q => pp == q)
              · have Hus : Hid (us.any (fun q => pp == q) = false) := hus
                clear hus
                go_wp2_with fail
                refine (HC27.out _ hblp.out).mono ?_
                rintro e w27 ⟨rfl, hb27⟩
                obtain ⟨n0, n1, n2, n3, n4, n5, n6, n7, n8⟩ := box9 ((hb27.block _ (Array.getElem?_eq_some_iff.1 HKW4.out).1).trans HKW4.out)
                have HB27 : Hid (Below wr.heap.size wr w27) := hb27
                clear hb27
                cases hof : officeAtB L d (c :: us ++ ds) pp
                · have Hof : Hid (officeAtB L d (c :: us ++ ds) pp = false) := hof
                  clear hof
                  go_wp2_with fail
                  refine (HC28.out _ (hblp.out.trans (HB27.out.mono hblp.out.size))).mono ?_
                  rintro e w28 ⟨rfl, hb28⟩
                  have HB28 : Hid (Below wr.heap.size wr w28) := HB27.out.trans (hb28.mono HB27.out.size)
                  clear hb28 n0 n1 n2 n3 n4 n5 n6 n7 n8
                  have HFin : Hid (relB L d c us (c :: us ++ ds) (kinOf L d rs (c :: us)) paths pp = kinOnB L d pp paths kin) := by
                    show _ = _
                    rw [HRB.out, Hpc.out, Hus.out, Hof.out]
                    rfl
                  generalize kinOnB L d pp paths kin = rk at *
                  go_wp2_with fail
                  go_meet
                  case rel => exact ⟨by rw [HFin.out], HB28.out⟩
                · have HFin : Hid (relB L d c us (c :: us ++ ds) (kinOf L d rs (c :: us)) paths pp = true) := by
                    show _ = _
                    rw [HRB.out, hof]
                    simp
                  clear hof
                  go_wp2_with fail
                  go_meet
                  case rel => exact ⟨by rw [HFin.out], HB27.out⟩
              · have HFin : Hid (relB L d c us (c :: us ++ ds) (kinOf L d rs (c :: us)) paths pp = true) := by
                  show _ = _
                  rw [HRB.out, hus]
                  simp
                clear hus
                go_wp2_with fail
                go_meet
                case rel => exact ⟨by rw [HFin.out], Below.refl _ _⟩
            · rw [hpc] at heq
              have HFin : Hid (relB L d c us (c :: us ++ ds) (kinOf L d rs (c :: us)) paths pp = true) := by
                show _ = _
                rw [HRB.out, hpc]
                simp
              clear hpc
              go_wp2_with fail
              go_meet
              case rel => exact ⟨by rw [HFin.out], Below.refl _ _⟩
          case rest =>
            obtain ⟨rfl, hbc⟩ := hcut
            have HOC : Hid (wc.ownsRow W3.heap.size 9 1 u20 acc.length (nmS acc)) := owns_heap HOW.out (fun g hg => hbc.block g (HOW.out.lt g hg).2)
            have HBC : Hid (Below W3.heap.size W3 wc) := hblp.out.trans (hbc.mono hblp.out.size)
            clear hbc y130 y132 HC26 HC27 HC28 heq
            cases hrb : relB L d c us (c :: us ++ ds) (kinOf L d rs (c :: us)) paths pp
            · have HO5 : Hid (wc.ownsRow W3.heap.size 9 1 u20 ((ps.take (kp + 1)).filter (relB L d c us (c :: us ++ ds) (kinOf L d rs (c :: us)) paths)).length (nmS ((ps.take (kp + 1)).filter (relB L d c us (c :: us ++ ds) (kinOf L d rs (c :: us)) paths)))) := by
                show World.ownsRow ..
                rw [Hsnp.out, hrb]
                simpa using HOC.out
              clear hrb
              go_wp2_with fail
              go_roundw
              case rel => first | exact ⟨kp + 1, by omega, by go_num, HO5, HBC⟩ | ((repeat apply Exists.intro); refine ⟨?_, rfl⟩; exact ⟨kp + 1, by omega, by go_num, HO5, HBC⟩)
              case measure => simp [intOf]; omega
            · have Hrb : Hid (relB L d c us (c :: us ++ ds) (kinOf L d rs (c :: us)) paths pp = true) := hrb
              clear hrb
              go_wp2_with (at_builtin; refine wpList_append_own_at _ rfl _ _ 47 rfl W3.heap.size 9 i0 _ 1 16 Ybaf.underlying47 hi0 hz0 hz1 hz2 rfl (by decide) u20 acc.length (nmS acc) rfl (HOC.out.alloc _) ⟨wc.heap.size, 0, none⟩ 1 1 [.string np] rfl rfl (World.news_of_block (cs := #[.string np]) (t := 9) (fr := (0, 0)) (heap_alloc_new wc _)) ?c2 ?c3 ?c4 ?c5 ?_)
              case c2 => intro u hu; rw [List.mem_singleton] at hu; subst hu; rfl
              case c3 => unfold maxLen; omega
              case c4 => omega
              case c5 => have := HBC.out.size; simp; omega
              intro v' w5 hown' hgrow' _ _
              have HB5 : Hid (Below W3.heap.size W3 w5) := (HBC.out.alloc HBC.out.size _).grown hgrow' (by have := HBC.out.size; simp; omega) (fun k hk => (HOC.out.lt k hk).1)
              have HO5 : Hid (w5.ownsRow W3.heap.size 9 1 v' ((ps.take (kp + 1)).filter (relB L d c us (c :: us ++ ds) (kinOf L d rs (c :: us)) paths)).length (nmS ((ps.take (kp + 1)).filter (relB L d c us (c :: us ++ ds) (kinOf L d rs (c :: us)) paths)))) := by
                show World.ownsRow ..
                rw [Hsnp.out, Hrb.out]
                simp only [if_true]
                rw [nmS_snoc, List.length_append, Hnp.out]
                exact hown'
              clear hown' hgrow'
              go_wp2_with fail
              go_roundw
              case rel => first | exact ⟨kp + 1, by omega, by go_num, HO5, HB5⟩ | ((repeat apply Exists.intro); refine ⟨?_, rfl⟩; exact ⟨kp + 1, by omega, by go_num, HO5, HB5⟩)
              case measure => simp [intOf]; omega
        · have hkl : kp = ps.length := by omega
          have HO5 : Hid (wr.ownsRow W3.heap.size 9 1 u20 (ps.filter (relB L d c us (c :: us ++ ds) (kinOf L d rs (c :: us)) paths)).length (nmS (ps.filter (relB L d c us (c :: us ++ ds) (kinOf L d rs (c :: us)) paths)))) := by
            rw [hkl, List.take_length] at howp
            exact howp
          clear hkl howp
          go_wp2_with fail
          go_ret
          refine ⟨_, us, ds, rfl, HMU.out, HMD.out, ?_, HW3.out.trans (hblp.out.mono HW3.out.size)⟩
          exact owns_base HO5.out HW3.out.size
end Go.Proofs.YbulkcfwsFmt
