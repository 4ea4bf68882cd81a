import Derived.Test.YbulkcfwsFmtAdult
namespace Go.Proofs.YbulkcfwsFmt
open Go.RowKit

theorem name_eq (p q : Nat) (hp : p < 7) (hq : q < 7) : ((nameOf p).toList == (nameOf q).toList) = (p == q) := by
  rcases lt7 hp with rfl | rfl | rfl | rfl | rfl | rfl | rfl <;> rcases lt7 hq with rfl | rfl | rfl | rfl | rfl | rfl | rfl <;> decide +kernel

theorem type_eq (t : Nat) (ht : t < 4) : ((typeOf t).toList == [111, 102, 102, 105, 99, 101, 114]) = (t == 0) ∧ ((typeOf t).toList == [99, 111, 110, 116, 114, 111, 108]) = (t == 1) ∧ ((typeOf t).toList == [102, 97, 109, 105, 108, 121]) = (t == 2) := by
  rcases lt4 ht with rfl | rfl | rfl | rfl <;> decide +kernel

theorem any_names (p : Nat) (hp : p < 7) (qs : List Nat) (hq : ∀ q ∈ qs, q < 7) : ((qs.map nameOf).any fun s => (nameOf p).toList == s.toList) = qs.any fun q => p == q := by
  induction qs with
  | nil => rfl
  | cons q qs ih =>
    rw [List.map_cons, List.any_cons, List.any_cons, ih (fun q hq' => hq q (List.mem_cons_of_mem _ hq')), name_eq p q hp (hq q List.mem_cons_self)]

theorem role_eq (p q : Nat) (hp : p < 5) (hq : q < 5) : ((roleOf p).toList == (roleOf q).toList) = (p == q) := by
  rcases lt5 hp with rfl | rfl | rfl | rfl | rfl <;> rcases lt5 hq with rfl | rfl | rfl | rfl | rfl <;> decide +kernel

/-- The ten cells of relation i, one by one. -/
theorem Reg.cells {ok : Nat → Prop} {w : World} {rb : Nat} {L : List Rel} (h : Reg ok w rb L) {i : Nat} (hi : i < L.length) :
    ∃ b off cap, w.cell? ⟨rb, 2, none⟩ = some (.slice (some ⟨b, off, none⟩) L.length cap) ∧ ok b ∧ b < w.heap.size ∧
      ∀ j u, (relCells i (L.getD i r0))[j]? = some u → w.cell? ⟨b, off + (i * 10 + j), none⟩ = some u := by
  obtain ⟨v, hc, hr⟩ := h.c2
  obtain ⟨b, off, cap, rfl, hok, hb, hcs⟩ := hr.cell (by omega)
  refine ⟨b, off, cap, hc, hok, hb, fun j u hj => hcs _ _ ?_⟩
  have hj10 : j < 10 := by
    have := (List.getElem?_eq_some_iff.1 hj).1
    simpa [relCells] using this
  rw [flat_get (m := 10) (fun i _ => rfl) hi hj10]
  exact hj

def officeB (L : List Rel) (d : Int) (orgs : List Nat) (i : Nat) : Bool := (L.getD i r0).ty == 0 && (L.getD i r0).on d && orgs.any fun q => (L.getD i r0).to == q

set_option maxRecDepth 100000 in
set_option maxHeartbeats 2000000 in
theorem office1_any {ok ok' : Nat → Prop} (rb i b1 b2 b3 : Nat) (L : List Rel) (d : Int) (ov : Value) (orgs : List Nat) (w : World) (h : Reg ok w rb L) (hi : i < L.length) (ho : Strs ok' w ov (orgs.map nameOf)) (hol : orgs.length ≤ 1000000) (hoq : ∀ q ∈ orgs, q < 7)
    (k1 : w.cell? ⟨b1, 0, none⟩ = some (.pointer (some ⟨rb, 0, none⟩))) (k2 : w.cell? ⟨b2, 0, none⟩ = some (.int .i32 d)) (k3 : w.cell? ⟨b3, 0, none⟩ = some ov) (_ : b1 < w.heap.size) (_ : b2 < w.heap.size) (hb3 : b3 < w.heap.size) :
    Calls Ybaf.prog 39 #[.int .i64 i, .pointer (some ⟨b1, 0, none⟩), .pointer (some ⟨b2, 0, none⟩), .pointer (some ⟨b3, 0, none⟩)] w fun e w' => e = .returned (.bool (officeB L d orgs i)) ∧ Below w.heap.size w w' := by
  obtain ⟨b, off, cap, hc2, hob, hb, hcs⟩ := h.cells hi
  have hltr := h.ltr
  have hlen := h.len
  obtain ⟨hty, hfr, hto, hro, hti⟩ := h.good i hi
  unfold officeB
  generalize hx : L.getD i r0 = x at *
  have x0 := hcs 0 _ rfl
  have x1 := hcs 1 _ rfl
  have x2 := hcs 2 _ rfl
  have x3 := hcs 3 _ rfl
  have x4 := hcs 4 _ rfl
  have x5 := hcs 5 _ rfl
  have x6 := hcs 6 _ rfl
  have x7 := hcs 7 _ rfl
  have x8 := hcs 8 _ rfl
  have x9 := hcs 9 _ rfl
  simp only [← Nat.add_assoc, Nat.add_zero] at x0 x1 x2 x3 x4 x5 x6 x7 x8 x9
  have hq := (type_eq x.ty hty).1
  have hH : Hid (∀ W, Calls Ybaf.prog 24 #[.agg #[.string (idOf i), .string (typeOf x.ty), .string (nameOf x.fr), .string (nameOf x.to), .int .i32 x.st, .int .i32 x.en, .string (roleOf x.ro), .int .i64 0, .pointer none, .string (tieOf x.ti)], .int .i32 d] W fun e w' => e = .returned (.bool (x.on d)) ∧ Below W.heap.size W w') := fun W => holdsOn_any i x d W
  have hC : Hid (∀ W, Below w.heap.size w W → Calls Ybaf.prog 26 #[ov, .string (nameOf x.to)] W fun e w' => e = .returned (.bool (orgs.any fun q => x.to == q)) ∧ w' = W) := fun W hW => by
    rw [← any_names x.to (by omega) orgs hoq]
    exact containsS_any ov _ _ W (ho.lift hW) (by simp; omega)
  generalize orgs.any (fun q => x.to == q) = r at *
  generalize x.on d = ro at *
  clear h ho hcs hx
  generalize idOf i = s0 at *
  generalize typeOf x.ty = s1 at *
  generalize nameOf x.fr = s2 at *
  generalize nameOf x.to = s3 at *
  generalize roleOf x.ro = s6 at *
  generalize tieOf x.ti = s9 at *
  go_enter Ybaf.func39, Ybaf.ntmps39
  go_wp2_with fail
  case isTrue =>
    refine (hH.out _).mono ?_
    rintro e w1 ⟨rfl, hbl⟩
    have hbw : Below w.heap.size w w1 := ((Below.refl w.heap.size w).alloc (Nat.le_refl _) _).trans (hbl.mono (by simp))
    have n3 : w1.cell? ⟨w.heap.size, 3, none⟩ = some (.string s3) := by rw [hbl.cell (by simp)]; simp
    have k3' := (hbw.cell (p := ⟨b3, 0, none⟩) hb3).trans k3
    have hlt1 : w.heap.size < w1.heap.size := by have := hbl.size; simp at this; omega
    have HB : Hid (Below w.heap.size w w1) := hbw
    clear hbl hbw k1 k2 k3 x0 x1 x2 x3 x4 x5 x6 x7 x8 x9
    cases ro
    · go_wp2_with fail
      go_ret
      exact ⟨by simp, HB.out⟩
    · go_wp2_with fail
      refine (hC.out _ HB.out).mono ?_
      rintro e w2 ⟨rfl, rfl⟩
      go_wp2_with fail
      go_ret
      exact ⟨by simp [*], HB.out⟩
  go_ret
  refine ⟨?_, (Below.refl _ w).alloc (Nat.le_refl _) _⟩
  have h0 : ¬ x.ty = 0 := by assumption
  simp [h0]
end Go.Proofs.YbulkcfwsFmt
