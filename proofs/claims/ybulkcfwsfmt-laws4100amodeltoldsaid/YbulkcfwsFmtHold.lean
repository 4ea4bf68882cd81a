import Derived.Test.YbulkcfwsFmtOfficeAt
namespace Go.Proofs.YbulkcfwsFmt
open Go.RowKit

def allOn (L : List Rel) (d : Int) (is : List Nat) : Bool := is.all fun i => (L.getD i r0).on d

theorem all_no {n k : Nat} {P : Nat → Bool} (h : k < n) (hp : P k = false) : (List.range n).all P = false := by
  cases e : (List.range n).all P
  · rfl
  · have := List.all_eq_true.1 e k (List.mem_range.2 h)
    rw [hp] at this
    cases this

theorem all_succ (k : Nat) (P : Nat → Bool) : (List.range (k + 1)).all P = ((List.range k).all P && P k) := by
  simp [List.range_succ, List.all_append]

set_option maxRecDepth 100000 in
set_option maxHeartbeats 2000000 in
theorem allHold_some {ok : Nat → Prop} (rb b off n cap : Nat) (S : Nat → Nat) (L : List Rel) (d : Int) (w : World) (h : Reg ok w rb L) (hn : n ≤ 1000000) (hb : b < w.heap.size)
    (hc : ∀ j, j < n → w.cell? ⟨b, off + j, none⟩ = some (.int .i64 (S j))) (hS : ∀ j, j < n → S j < L.length) :
    Calls Ybaf.prog 52 #[.pointer (some ⟨rb, 0, none⟩), .slice (some ⟨b, off, none⟩) n cap, .int .i32 d] w fun e w' => e = .returned (.bool ((List.range n).all fun j => (L.getD (S j) r0).on d)) ∧ Below w.heap.size w w' := by
  have H : Hid (Reg ok w rb L) := h
  clear h
  go_enter Ybaf.func52, Ybaf.ntmps52
  go_wp2
  go_loopw [11] (fun i wr => ∃ k : Nat, k ≤ n ∧ i = .int .i64 k ∧ Hid (((List.range k).all fun j => (L.getD (S j) r0).on d) = true) ∧ Below w.heap.size w wr) (fun i _ => n - (intOf i).toNat)
  case atStart => exact ⟨0, Nat.zero_le _, rfl, rfl, Below.refl _ _⟩
  case round =>
    obtain ⟨k, hk, rfl, hyes, hbl⟩ := hrel
    have HB : Hid (Below w.heap.size w wr) := hbl
    by_cases hlt : k < n
    · have hcell := (hbl.cell (p := ⟨b, off + k, none⟩) hb).trans (hc k hlt)
      have hR : Reg ok wr rb L := H.out.keep (fun b hok hlt => ⟨hbl.block b hlt, hok⟩) hbl.size
      have hi := hS k hlt
      clear hbl
      generalize hSk : S k = i at *
      obtain ⟨rb2, roff, rcap, hc2, hob, hb2, hcs⟩ := hR.cells hi
      have hltr := hR.ltr
      have hlen := hR.len
      clear hR
      generalize hx : L.getD i r0 = x at *
      have x0 := hcs 0 _ rfl
      have x1 := hcs 1 _ rfl
      have x2 := hcs 2 _ rfl
      have x3 := hcs 3 _ rfl
      have x4 := hcs 4 _ rfl
      have x5 := hcs 5 _ rfl
      have x6 := hcs 6 _ rfl
      have x7 := hcs 7 _ rfl
      have x8 := hcs 8 _ rfl
      have x9 := hcs 9 _ rfl
      simp only [← Nat.add_assoc, Nat.add_zero] at x0 x1 x2 x3 x4 x5 x6 x7 x8 x9
      have hH : Hid (∀ W, Calls Ybaf.prog 24 #[.agg #[.string (idOf i), .string (typeOf x.ty), .string (nameOf x.fr), .string (nameOf x.to), .int .i32 x.st, .int .i32 x.en, .string (roleOf x.ro), .int .i64 0, .pointer none, .string (tieOf x.ti)], .int .i32 d] W fun e w' => e = .returned (.bool (x.on d)) ∧ Below W.heap.size W w') := fun W => holdsOn_any i x d W
      have HX : Hid ((L.getD (S k) r0).on d = x.on d) := by show _ = _; rw [hSk, hx]
      clear hcs hx
      generalize idOf i = s0 at *
      generalize typeOf x.ty = s1 at *
      generalize nameOf x.fr = s2 at *
      generalize nameOf x.to = s3 at *
      generalize roleOf x.ro = s6 at *
      generalize tieOf x.ti = s9 at *
      go_wp2_with fail
      refine (hH.out _).mono ?_
      rintro e w1 ⟨rfl, hb1⟩
      have HB1 : Hid (Below w.heap.size w w1) := HB.out.trans (hb1.mono HB.out.size)
      clear hb1
      cases hP : x.on d
      · go_wp2_with fail
        go_ret
        refine ⟨?_, HB1.out⟩
        rw [all_no hlt (HX.out.trans hP)]
        rfl
      · go_wp2_with fail
        go_roundw
        case rel => exact ⟨k + 1, by omega, by go_num, by show _ = _; rw [all_succ, hyes.out, HX.out, hP]; rfl, HB1.out⟩
        case measure => simp [intOf]; omega
    · clear hbl
      go_wp2
      go_ret
      have : k = n := by omega
      refine ⟨?_, HB.out⟩
      rw [← this, hyes.out]
      rfl

set_option maxHeartbeats 1000000 in
theorem indexH_none (a : Option Addr) (cap : Nat) (f : Value) (w : World) :
    Calls Ybaf.prog 63 #[.slice a (0 : Nat) cap, f] w fun e w' => e = .returned (.int .i64 (-1)) ∧ w' = w := by
  go_enter Ybaf.func63, Ybaf.ntmps63
  go_wp2
  refine wp_loop_rounds 1 ?_
  rw [rounds_succ]
  go_wp2
  go_ret
  exact ⟨rfl, rfl⟩

set_option maxHeartbeats 1000000 in
theorem indexH_any (b off n cap : Nat) (S : Nat → Value) (P : Nat → Bool) (c1 c2 : Value) (w : World) (hn : n ≤ 1000000) (hb : b < w.heap.size)
    (hc : ∀ j, j < n → w.cell? ⟨b, off + j * 4 + 0, none⟩ = some (S j) ∧ w.cell? ⟨b, off + j * 4 + 1, none⟩ = some (.int .i64 0) ∧ w.cell? ⟨b, off + j * 4 + 2, none⟩ = some (.string ⟨#[]⟩) ∧ w.cell? ⟨b, off + j * 4 + 3, none⟩ = some (.string ⟨#[]⟩))
    (hf : Hid (∀ j, j < n → ∀ W, Below w.heap.size w W → Calls Ybaf.prog 51 #[.agg #[S j, .int .i64 0, .string ⟨#[]⟩, .string ⟨#[]⟩], c1, c2] W fun e w' => e = .returned (.bool (P j)) ∧ Below W.heap.size W w')) :
    Calls Ybaf.prog 63 #[.slice (some ⟨b, off, none⟩) n cap, .func (.func 51) #[] #[c1, c2]] w fun e w' => (∃ k : Int, e = .returned (.int .i64 k) ∧ decide (0 ≤ k) = (List.range n).any P) ∧ Below w.heap.size w w' := by
  go_enter Ybaf.func63, Ybaf.ntmps63
  go_wp2
  go_loopw [8] (fun i wr => ∃ k : Nat, k ≤ n ∧ i = .int .i64 k ∧ Hid ((List.range k).any P = false) ∧ Below w.heap.size w wr) (fun i _ => n - (intOf i).toNat)
  case atStart => exact ⟨0, Nat.zero_le _, rfl, rfl, Below.refl _ _⟩
  case round =>
    obtain ⟨k, hk, rfl, hno, hbl⟩ := hrel
    have HB : Hid (Below w.heap.size w wr) := hbl
    by_cases hlt : k < n
    · have y0 := (hbl.cell (p := ⟨b, off + k * 4 + 0, none⟩) hb).trans (hc k hlt).1
      have y1 := (hbl.cell (p := ⟨b, off + k * 4 + 1, none⟩) hb).trans (hc k hlt).2.1
      have y2 := (hbl.cell (p := ⟨b, off + k * 4 + 2, none⟩) hb).trans (hc k hlt).2.2.1
      have y3 := (hbl.cell (p := ⟨b, off + k * 4 + 3, none⟩) hb).trans (hc k hlt).2.2.2
      clear hbl
      simp only [Nat.add_zero] at y0
      generalize hSk : S k = sk at *
      go_wp2_with fail
      refine (hSk ▸ hf.out k hlt _ HB.out).mono ?_
      rintro e w1 ⟨rfl, hb1⟩
      have HB1 : Hid (Below w.heap.size w w1) := HB.out.trans (hb1.mono HB.out.size)
      clear hb1
      cases hP : P k
      · go_wp2_with fail
        go_roundw
        case rel => exact ⟨k + 1, by omega, by go_num, by show Hid _; refine (?_ : _ = _); rw [List.range_succ, List.any_append, hno.out]; simp [hP], HB1.out⟩
        case measure => simp [intOf]; omega
      · go_wp2_with fail
        go_ret
        refine ⟨⟨k, rfl, ?_⟩, HB1.out⟩
        rw [List.any_eq_true.2 ⟨k, List.mem_range.2 hlt, hP⟩]
        simp
    · clear hbl
      go_wp2
      go_ret
      have : k = n := by omega
      exact ⟨⟨-1, rfl, by rw [← this, hno.out]; rfl⟩, HB.out⟩

/-- The step of relation i alone, for each i of the list. -/
def Steps (ok : Nat → Prop) (w : World) (v : Value) (is : List Nat) : Prop :=
  ∃ sv : Nat → Value, Row ok w v is.length 4 (flat is.length fun j => [sv j, .int .i64 0, .string ⟨#[]⟩, .string ⟨#[]⟩]) ∧ ∀ j, j < is.length → Ints ok w (sv j) [Int.ofNat (is.getD j 0)]

theorem Steps.keep {ok ok' : Nat → Prop} {w w' : World} {v : Value} {is : List Nat} (h : Steps ok w v is)
    (hk : ∀ b, ok b → b < w.heap.size → w'.heap[b]? = w.heap[b]? ∧ ok' b) (hs : w.heap.size ≤ w'.heap.size) : Steps ok' w' v is := by
  obtain ⟨sv, h1, h2⟩ := h
  exact ⟨sv, h1.keep hk hs, fun j hj => (h2 j hj).keep hk hs⟩

theorem Steps.lift {ok : Nat → Prop} {w w' : World} {v : Value} {is : List Nat} (h : Steps ok w v is) (hb : Below w.heap.size w w') : Steps ok w' v is :=
  h.keep (fun b hok hlt => ⟨hb.block b hlt, hok⟩) hb.size

theorem steps_nil (ok : Nat → Prop) (w : World) : Steps ok w (.slice none (0 : Nat) 0) [] := ⟨fun _ => .bool false, row_nil ok w 4, fun j hj => by simp at hj⟩

theorem allHold_one {ok ok' : Nat → Prop} (rb i : Nat) (v : Value) (L : List Rel) (d : Int) (w : World) (h : Reg ok w rb L) (hv : Ints ok' w v [Int.ofNat i]) (hi : i < L.length) :
    Calls Ybaf.prog 52 #[.pointer (some ⟨rb, 0, none⟩), v, .int .i32 d] w fun e w' => e = .returned (.bool ((L.getD i r0).on d)) ∧ Below w.heap.size w w' := by
  obtain ⟨b, off, cap, rfl, _, hb, hc⟩ := Row.cell hv (by simp)
  refine (allHold_some rb b off 1 cap (fun _ => i) L d w h (by decide) hb (fun j hj => hc j _ (by
    obtain rfl : j = 0 := by omega
    rfl)) (fun _ _ => hi)).mono ?_
  rintro e w' ⟨rfl, hb⟩
  exact ⟨by simp [List.range_succ], hb⟩

set_option maxHeartbeats 1000000 in
theorem kinOn1_any {ok ok' : Nat → Prop} (rb i b1 b2 : Nat) (v : Value) (L : List Rel) (d : Int) (w : World) (h : Reg ok w rb L) (hv : Ints ok' w v [Int.ofNat i]) (hi : i < L.length)
    (k1 : w.cell? ⟨b1, 0, none⟩ = some (.pointer (some ⟨rb, 0, none⟩))) (k2 : w.cell? ⟨b2, 0, none⟩ = some (.int .i32 d)) (hb1 : b1 < w.heap.size) (hb2 : b2 < w.heap.size) :
    Calls Ybaf.prog 51 #[.agg #[v, .int .i64 0, .string ⟨#[]⟩, .string ⟨#[]⟩], .pointer (some ⟨b1, 0, none⟩), .pointer (some ⟨b2, 0, none⟩)] w fun e w' => e = .returned (.bool (!(L.getD i r0).on d)) ∧ Below w.heap.size w w' := by
  have hA : Hid (∀ W, Below w.heap.size w W → Calls Ybaf.prog 52 #[.pointer (some ⟨rb, 0, none⟩), v, .int .i32 d] W fun e w' => e = .returned (.bool ((L.getD i r0).on d)) ∧ Below W.heap.size W w') := fun W hW =>
    allHold_one rb i v L d W (h.keep (fun b hok hlt => ⟨hW.block b hlt, hok⟩) hW.size) (hv.lift hW) hi
  obtain ⟨va, vc, rfl⟩ := Row.form hv
  generalize (L.getD i r0).on d = r at *
  clear h hv
  go_enter Ybaf.func51, Ybaf.ntmps51
  go_wp2_with fail
  have hbl := (Below.refl w.heap.size w).alloc (Nat.le_refl _) (.cells #[.slice va 1 vc, .int .i64 0, .string ⟨#[]⟩, .string ⟨#[]⟩] 119)
  refine (hA.out _ hbl).mono ?_
  rintro e w1 ⟨rfl, hb1'⟩
  have HB1 : Hid (Below w.heap.size w w1) := hbl.trans (hb1'.mono hbl.size)
  clear hb1' hbl
  go_wp2_with fail
  go_ret
  exact ⟨rfl, HB1.out⟩

set_option maxHeartbeats 1000000 in
theorem containsH_any {ok ok' : Nat → Prop} (rb b1 b2 : Nat) (v : Value) (is : List Nat) (L : List Rel) (d : Int) (w : World) (h : Reg ok w rb L) (hv : Steps ok' w v is) (hn : is.length ≤ 1000000) (hi : ∀ i ∈ is, i < L.length)
    (k1 : w.cell? ⟨b1, 0, none⟩ = some (.pointer (some ⟨rb, 0, none⟩))) (k2 : w.cell? ⟨b2, 0, none⟩ = some (.int .i32 d)) (hb1 : b1 < w.heap.size) (hb2 : b2 < w.heap.size) :
    Calls Ybaf.prog 50 #[v, .func (.func 51) #[] #[.pointer (some ⟨b1, 0, none⟩), .pointer (some ⟨b2, 0, none⟩)]] w fun e w' => e = .returned (.bool (is.any fun i => !(L.getD i r0).on d)) ∧ Below w.heap.size w w' := by
  rw [← any_range is fun i => !(L.getD i r0).on d]
  obtain ⟨sv, hr, hs⟩ := hv
  obtain ⟨-, a, cap, rfl, -, h'⟩ := hr
  have hI : Calls Ybaf.prog 63 #[.slice a is.length cap, .func (.func 51) #[] #[.pointer (some ⟨b1, 0, none⟩), .pointer (some ⟨b2, 0, none⟩)]] w fun e w' => (∃ k : Int, e = .returned (.int .i64 k) ∧ decide (0 ≤ k) = (List.range is.length).any fun j => !(L.getD (is.getD j default) r0).on d) ∧ Below w.heap.size w w' := by
    rcases h' with h' | ⟨b, off, rfl, _, hb, hc⟩
    · rw [h']
      refine (indexH_none a cap _ w).mono ?_
      rintro e w' ⟨rfl, rfl⟩
      exact ⟨⟨-1, rfl, by simp⟩, Below.refl _ _⟩
    · refine indexH_any b off is.length cap sv (fun j => !(L.getD (is.getD j default) r0).on d) _ _ w hn hb (fun j hj => ?_) ?_
      · have hf : ∀ l u, [sv j, .int .i64 0, .string ⟨#[]⟩, .string ⟨#[]⟩][l]? = some u → w.cell? ⟨b, off + (j * 4 + l), none⟩ = some u := fun l u hl => hc _ _ (by
          rw [flat_get (m := 4) (fun _ _ => rfl) hj (by simpa using (List.getElem?_eq_some_iff.1 hl).1)]
          exact hl)
        exact ⟨hf 0 _ rfl, hf 1 _ rfl, hf 2 _ rfl, hf 3 _ rfl⟩
      · intro j hj W hW
        exact kinOn1_any rb (is.getD j default) b1 b2 (sv j) L d W (h.keep (fun b hok hlt => ⟨hW.block b hlt, hok⟩) hW.size) ((hs j hj).lift hW) (hi _ (by simp [List.getD, List.getElem?_eq_getElem hj]))
          ((hW.cell hb1).trans k1) ((hW.cell hb2).trans k2) (Nat.lt_of_lt_of_le hb1 hW.size) (Nat.lt_of_lt_of_le hb2 hW.size)
  clear h' hs h
  generalize (List.range is.length).any (fun j => !(L.getD (is.getD j default) r0).on d) = r at *
  go_enter Ybaf.func50, Ybaf.ntmps50
  go_wp2_with fail
  refine hI.mono ?_
  rintro e w' ⟨⟨k, rfl, hk⟩, hb⟩
  have HB : Hid (Below w.heap.size w w') := hb
  clear hb
  go_wp2_with fail
  go_ret
  exact ⟨by simp [← hk], HB.out⟩
end Go.Proofs.YbulkcfwsFmt
