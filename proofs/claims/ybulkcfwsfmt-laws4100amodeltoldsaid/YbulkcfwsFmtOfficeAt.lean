import Derived.Test.YbulkcfwsFmtOffice
import Derived.Test.YbulkcfwsFmtFun
namespace Go.Proofs.YbulkcfwsFmt
open Go.RowKit

set_option maxHeartbeats 1000000 in
theorem indexF_none (a : Option Addr) (cap : Nat) (f : Value) (w : World) :
    Calls Ybaf.prog 47 #[.slice a (0 : Nat) cap, f] w fun e w' => e = .returned (.int .i64 (-1)) ∧ w' = w := by
  go_enter Ybaf.func47, Ybaf.ntmps47
  go_wp2
  refine wp_loop_rounds 1 ?_
  rw [rounds_succ]
  go_wp2
  go_ret
  exact ⟨rfl, rfl⟩

theorem any_range {α : Type} [Inhabited α] (xs : List α) (P : α → Bool) : ((List.range xs.length).any fun j => P (xs.getD j default)) = xs.any P := by
  rw [Bool.eq_iff_iff]
  simp only [List.any_eq_true, List.mem_range]
  constructor
  · rintro ⟨j, hj, h⟩
    refine ⟨xs.getD j default, ?_, h⟩
    simp [List.getD, List.getElem?_eq_getElem hj]
  · rintro ⟨s, hs, h⟩
    obtain ⟨j, hj, rfl⟩ := List.mem_iff_getElem.1 hs
    exact ⟨j, hj, by simpa [List.getD, List.getElem?_eq_getElem hj] using h⟩

set_option maxHeartbeats 1000000 in
theorem containsF_any {ok : Nat → Prop} (v : Value) (xs : List Nat) (P : Nat → Bool) (c1 c2 c3 : Value) (w : World) (h : Ints ok w v (ofNats xs)) (hn : xs.length ≤ 1000000)
    (hf : Hid (∀ x, x ∈ xs → ∀ W, Below w.heap.size w W → Calls Ybaf.prog 39 #[.int .i64 (Int.ofNat x), c1, c2, c3] W fun e w' => e = .returned (.bool (P x)) ∧ Below W.heap.size W w')) :
    Calls Ybaf.prog 37 #[v, .func (.func 39) #[] #[c1, c2, c3]] w fun e w' => e = .returned (.bool (xs.any P)) ∧ Below w.heap.size w w' := by
  rw [← any_range xs P]
  obtain ⟨-, a, cap, rfl, -, h⟩ := h
  have hI : Calls Ybaf.prog 47 #[.slice a (ofNats xs).length cap, .func (.func 39) #[] #[c1, c2, c3]] w fun e w' => (∃ k : Int, e = .returned (.int .i64 k) ∧ decide (0 ≤ k) = (List.range xs.length).any fun j => P (xs.getD j default)) ∧ Below w.heap.size w w' := by
    have hl : (ofNats xs).length = xs.length := by simp [ofNats]
    rcases h with h | ⟨b, off, rfl, _, hb, hc⟩
    · rw [h]
      rw [hl] at h
      refine (indexF_none a cap _ w).mono ?_
      rintro e w' ⟨rfl, rfl⟩
      exact ⟨⟨-1, rfl, by simp [h]⟩, Below.refl _ _⟩
    · rw [hl]
      refine indexF_any b off xs.length cap (fun j => Int.ofNat (xs.getD j default)) (fun j => P (xs.getD j default)) c1 c2 c3 w hn hb (fun j hj => hc j _ (by simp [ofNats, List.getD, List.getElem?_eq_getElem hj])) ?_
      intro j hj W hW
      exact hf.out _ (by simp [List.getD, List.getElem?_eq_getElem hj]) W hW
  clear h hf
  generalize (ofNats xs).length = ln at *
  generalize (List.range xs.length).any (fun j => P (xs.getD j default)) = r at *
  go_enter Ybaf.func37, Ybaf.ntmps37
  go_wp2_with fail
  refine hI.mono ?_
  rintro e w' ⟨⟨k, rfl, hk⟩, hb⟩
  have HB : Hid (Below w.heap.size w w') := hb
  clear hb
  go_wp2_with fail
  go_ret
  exact ⟨by simp [← hk], HB.out⟩

theorem Strs.formN {ok : Nat → Prop} {w : World} {v : Value} {ps : List Nat} {kf : Nat → ByteArray} (h : Strs ok w v (ps.map kf)) : ∃ a c, v = .slice a ps.length c := by
  obtain ⟨a, c, e⟩ := Row.form h
  exact ⟨a, c, by simpa using e⟩

def officeAtB (L : List Rel) (d : Int) (orgs : List Nat) (p : Nat) : Bool := (fromIdx L p).any (officeB L d orgs)

set_option maxHeartbeats 1000000 in
theorem officeAt_any {ok ok' : Nat → Prop} (rb p : Nat) (L : List Rel) (d : Int) (ov : Value) (orgs : List Nat) (w : World) (h : Reg ok w rb L) (hp : p < 7) (ho : Strs ok' w ov (orgs.map nameOf)) (hol : orgs.length ≤ 1000000) (hoq : ∀ q ∈ orgs, q < 7) :
    Calls Ybaf.prog 27 #[.pointer (some ⟨rb, 0, none⟩), .string (nameOf p), ov, .int .i32 d] w fun e w' => e = .returned (.bool (officeAtB L d orgs p)) ∧ Below w.heap.size w w' := by
  have hF : Hid (∀ W, Below w.heap.size w W → Calls Ybaf.prog 38 #[.pointer (some ⟨rb, 0, none⟩), .string (nameOf p)] W fun e w' => (∃ v', e = .returned v' ∧ Ints ok W v' (ofNats (fromIdx L p))) ∧ w' = W) := fun W hW =>
    from_any rb p L W (h.keep (fun b hok hlt => ⟨hW.block b hlt, hok⟩) hW.size) hp
  have H : Hid (Reg ok w rb L) := h
  obtain ⟨oa, oc, rfl⟩ := Strs.formN ho
  have HO : Hid (Strs ok' w (.slice oa orgs.length oc) (orgs.map nameOf)) := ho
  clear h ho
  generalize nameOf p = s at *
  go_enter Ybaf.func27, Ybaf.ntmps27
  go_wp2_with fail
  have hbl : Below w.heap.size w _ := (((Below.refl w.heap.size w).alloc (Nat.le_refl _) (.cells #[.pointer (some ⟨rb, 0, none⟩)] 25)).alloc (by simp) (.cells #[.slice oa orgs.length oc] 47)).alloc (by simp; omega) (.cells #[.int .i32 d] 29)
  refine (hF.out _ hbl).mono ?_
  rintro e w' ⟨⟨v', rfl, hI⟩, rfl⟩
  have HI : Hid (Ints ok _ v' (ofNats (fromIdx L p))) := hI
  have HB : Hid (Below w.heap.size w _) := hbl
  clear hI hbl
  go_wp2_with fail
  refine (containsF_any v' (fromIdx L p) (officeB L d orgs) _ _ _ _ HI.out (by have := fromIdx_len L p; have := H.out.len; omega) ?_).mono ?_
  · intro x hx W hW
    have hbW := HB.out.trans (hW.mono HB.out.size)
    refine office1_any rb x _ _ _ L d _ orgs W (H.out.keep (fun b hok hlt => ⟨hbW.block b hlt, hok⟩) hbW.size) (fromIdx_lt L p x hx) (HO.out.lift hbW) hol hoq ?_ ?_ ?_ ?_ ?_ ?_
    · exact (hW.cell (by simp; try omega)).trans (by go_simp)
    · exact (hW.cell (by simp; try omega)).trans (by go_simp)
    · exact (hW.cell (by simp; try omega)).trans (by go_simp)
    all_goals (have := hW.size; simp at this ⊢; omega)
  rintro e w' ⟨rfl, hb⟩
  have HB' : Hid (Below w.heap.size w w') := HB.out.trans (hb.mono HB.out.size)
  clear hb
  go_wp2_with fail
  go_ret
  exact ⟨rfl, HB'.out⟩
end Go.Proofs.YbulkcfwsFmt
