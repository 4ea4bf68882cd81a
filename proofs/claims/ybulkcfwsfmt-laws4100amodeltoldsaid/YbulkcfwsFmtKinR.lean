import Derived.Test.YbulkcfwsFmtKin0
import Derived.Deep.AppendLies
namespace Go.Proofs.YbulkcfwsFmt
open Go.RowKit

theorem Row.move {B : Nat} {w w' : World} {v : Value} {n m : Nat} {cs : List Value} (h : Row (· < B) w v n m cs) (hk : ∀ b, b < B → w'.heap[b]? = w.heap[b]?) (hs : B ≤ w'.heap.size) : Row (· < B) w' v n m cs := by
  obtain ⟨hl, a, cap, rfl, hcap, h⟩ := h
  refine ⟨hl, a, cap, rfl, hcap, ?_⟩
  rcases h with h | ⟨b, off, rfl, hok, hb, hc⟩
  · exact .inl h
  · exact .inr ⟨b, off, rfl, hok, Nat.lt_of_lt_of_le hok hs, fun j u hj => by rw [cell_of_heap (hk b hok)]; exact hc j u hj⟩

theorem cell_old {w : World} {a : Addr} {v : Value} (o : Obj) (h : w.cell? a = some v) : (w.alloc o).cell? a = some v := Lib.cell?_alloc_some o h

theorem cell_new (w : World) (c : Array Value) (t : TypeId) (j : Nat) : (w.alloc (.cells c t)).cell? ⟨w.heap.size, j, none⟩ = c[j]? := by
  simp

theorem row_new (w : World) (c : Array Value) (t : TypeId) (n m : Nat) (h : c.size = n * m) : Row (fun b => b = w.heap.size) (w.alloc (.cells c t)) (.slice (some ⟨w.heap.size, 0, none⟩) n n) n m c.toList := by
  refine ⟨by simpa using h, _, n, rfl, Nat.le_refl _, .inr ⟨w.heap.size, 0, rfl, rfl, by simp, fun j u hj => ?_⟩⟩
  rw [Nat.zero_add, cell_new]
  simpa using hj

theorem Ints.one {ok : Nat → Prop} {w : World} {v : Value} {xs : List Int} (h : Ints ok w v xs) : v.oneCell' = true := by
  obtain ⟨a, c, rfl⟩ := Row.form h
  rfl

theorem flat_mem {n : Nat} {f : Nat → List Value} {u : Value} (h : u ∈ flat n f) : ∃ j, j < n ∧ u ∈ f j := by
  obtain ⟨j, hj, hu⟩ := List.mem_flatMap.1 h
  exact ⟨j, List.mem_range.1 hj, hu⟩

theorem kinCat (w1 wA : World) (C B0 : Nat) (hC : C ≤ B0) (ska : Option Addr) (skc : Nat) (is : List Nat) (i : Nat) (u : Value) (hb : Below w1.heap.size w1 wA)
    (hsk : Steps (fun b => C ≤ b ∧ b < w1.heap.size) w1 (.slice ska is.length skc) is) (his : is.length ≤ 3) (hu : Ints (B0 ≤ ·) wA u [Int.ofNat i]) (h0 : B0 ≤ wA.heap.size) :
    Calls Ybaf.prog 61 #[.slice (some ⟨wA.heap.size + 1, 0, none⟩) (2 : Nat) 2] ((wA.alloc (.cells #[u, .int .i64 0, .string ⟨#[]⟩, .string ⟨#[]⟩] 119)).alloc (.cells #[.slice ska is.length skc, .slice (some ⟨wA.heap.size, 0, none⟩) (1 : Nat) 1] 113))
      fun e w' => (∃ g cap, e = .returned (.slice (some ⟨g, 0, none⟩) (is.length + 1) cap) ∧ Steps (fun b => C ≤ b ∧ (b < w1.heap.size ∨ B0 ≤ b)) w' (.slice (some ⟨g, 0, none⟩) (is.length + 1) cap) (is ++ [i])) ∧ Below wA.heap.size wA w' := by
  obtain ⟨sv, hrow, hints⟩ := hsk
  have hb2 : Below wA.heap.size wA ((wA.alloc (.cells #[u, .int .i64 0, .string ⟨#[]⟩, .string ⟨#[]⟩] 119)).alloc (.cells #[.slice ska is.length skc, .slice (some ⟨wA.heap.size, 0, none⟩) (1 : Nat) 1] 113)) := ((Below.refl _ _).alloc (Nat.le_refl _) _).alloc (by simp) _
  have hb1 := hb.trans (hb2.mono hb.size)
  have hr1 : Row (fun _ => True) _ (.slice ska is.length skc) is.length 4 (flat is.length fun j => [sv j, .int .i64 0, .string ⟨#[]⟩, .string ⟨#[]⟩]) := (hrow.lift hb1).mono (fun _ _ _ => trivial)
  have hr2 : Row (fun _ => True) ((wA.alloc (.cells #[u, .int .i64 0, .string ⟨#[]⟩, .string ⟨#[]⟩] 119)).alloc (.cells #[.slice ska is.length skc, .slice (some ⟨wA.heap.size, 0, none⟩) (1 : Nat) 1] 113)) (.slice (some ⟨wA.heap.size, 0, none⟩) (1 : Nat) 1) 1 4 [u, .int .i64 0, .string ⟨#[]⟩, .string ⟨#[]⟩] :=
    ((row_new wA #[u, .int .i64 0, .string ⟨#[]⟩, .string ⟨#[]⟩] 119 1 4 rfl).mono (fun _ _ _ => trivial)).lift ((Below.refl _ _).alloc (Nat.le_refl _) _)
  have hs1 : (wA.alloc (.cells #[u, .int .i64 0, .string ⟨#[]⟩, .string ⟨#[]⟩] 119)).heap.size = wA.heap.size + 1 := by simp
  have hk1 := cell_new (wA.alloc (.cells #[u, .int .i64 0, .string ⟨#[]⟩, .string ⟨#[]⟩] 119)) #[.slice ska is.length skc, .slice (some ⟨wA.heap.size, 0, none⟩) (1 : Nat) 1] 113
  rw [hs1] at hk1
  refine (cat61_any (wA.heap.size + 1) is.length 1 2 _ _ _ _ _ (hk1 0) (hk1 1) (by simp) hr1 hr2 (by omega) (by omega) (by omega) ?_ ?_).mono ?_
  · intro x hx
    obtain ⟨j, hj, hx⟩ := flat_mem hx
    simp only [List.mem_cons, List.mem_nil_iff, or_false] at hx
    rcases hx with rfl | rfl | rfl | rfl
    · exact Ints.one (hints j hj)
    all_goals rfl
  · intro x hx
    simp only [List.mem_cons, List.mem_nil_iff, or_false] at hx
    rcases hx with rfl | rfl | rfl | rfl
    · exact Ints.one hu
    all_goals rfl
  · rintro e w' ⟨⟨v', rfl, hown⟩, hbl⟩
    have hbA : Below wA.heap.size wA w' := hb2.trans (hbl.mono hb2.size)
    obtain ⟨g, cap, rfl, _⟩ := hown.form (by omega)
    refine ⟨⟨g, cap, rfl, ?_⟩, hbA⟩
    · refine steps_snoc (sv := sv) (u := u) (fun j hj => ?_) ?_ ?_
      · exact (hints j hj).keep (fun b hok _ => ⟨(hb1.trans (hbl.mono hb1.size)).block b hok.2, hok.1, .inl hok.2⟩) (hb1.trans (hbl.mono hb1.size)).size
      · exact (row_of_owns hown).mono (fun b hok _ => by have := hok.2; simp at this; exact ⟨by omega, .inr (by omega)⟩)
      · exact hu.keep (fun b hok hlt => ⟨hbA.block b hlt, Nat.le_trans hC hok, .inr hok⟩) hbA.size

/-- In the round: the kinsman's box, the relation's box, the row that is being made. -/
structure KR (C : Nat) (w1 : World) (bx : Nat) (n2 : ByteArray) (sk : Value) (rl fld : Nat) (nx : ByteArray) (sv : Nat → Value) (W : World) (v : Value) (acc : List (Nat × List Nat)) : Prop where
  bel : Below w1.heap.size w1 W
  own : W.ownsRow w1.heap.size 115 2 v acc.length (flat acc.length fun j => [.string (nameOf (acc.getD j default).1), sv j])
  steps : ∀ j, j < acc.length → Steps (fun b => some b ≠ v.ownBlock ∧ C ≤ b) W (sv j) (acc.getD j default).2
  box0 : W.cell? ⟨bx, 0, none⟩ = some (.string n2)
  box1 : W.cell? ⟨bx, 1, none⟩ = some sk
  rel : W.cell? ⟨rl, fld, none⟩ = some (.string nx)
  ltb : bx < W.heap.size
  ltr : rl < W.heap.size
  neb : some bx ≠ v.ownBlock
  ner : some rl ≠ v.ownBlock

variable {C : Nat} {w1 : World} {bx : Nat} {n2 : ByteArray} {sk : Value} {rl fld : Nat} {nx : ByteArray} {sv : Nat → Value} {W : World} {v : Value} {acc : List (Nat × List Nat)}

theorem KR.below {W' : World} (h : KR C w1 bx n2 sk rl fld nx sv W v acc) (hb : Below W.heap.size W W') : KR C w1 bx n2 sk rl fld nx sv W' v acc :=
  ⟨h.bel.trans (hb.mono h.bel.size), owns_heap h.own (fun g hg => hb.block g (h.own.lt g hg).2), fun j hj => (h.steps j hj).lift hb, (hb.cell h.ltb).trans h.box0, (hb.cell h.ltb).trans h.box1, (hb.cell h.ltr).trans h.rel, Nat.lt_of_lt_of_le h.ltb hb.size, Nat.lt_of_lt_of_le h.ltr hb.size, h.neb, h.ner⟩

theorem KR.alloc (h : KR C w1 bx n2 sk rl fld nx sv W v acc) (o : Obj) : KR C w1 bx n2 sk rl fld nx sv (W.alloc o) v acc := h.below ((Below.refl _ W).alloc (Nat.le_refl _) o)

theorem KR.drew (h : KR C w1 bx n2 sk rl fld nx sv W v acc) : KR C w1 bx n2 sk rl fld nx sv W.drew v acc := h.below (Below.refl _ W).drew

theorem KR.s (h : KR C w1 bx n2 sk rl fld nx sv W v acc) : W.cell? ⟨rl, fld, none⟩ = some (.string nx) ∧ W.cell? ⟨bx, 1, none⟩ = some sk := ⟨h.rel, h.box1⟩

theorem KR.next (h : KR C w1 bx n2 sk rl fld nx sv W v acc) : Next C w1.heap.size W v acc := ⟨sv, h.own, h.steps⟩

theorem KR.append {W' : World} {g cap q H : Nat} {is : List Nat} {u : Value} (h : KR C w1 bx n2 sk rl fld nx sv W v acc) (hu : Steps (fun b => C ≤ b ∧ (b < w1.heap.size ∨ W.heap.size ≤ b ∨ (∀ k, v.ownBlock = some k → k < b))) W u is)
    (hown : W'.ownsRow w1.heap.size 115 2 (.slice (some ⟨g, 0, none⟩) (acc.length + 1) cap) (acc.length + 1) ((flat acc.length fun j => [.string (nameOf (acc.getD j default).1), sv j]) ++ [.string (nameOf q), u])) (hg : W.grownBy W' v.ownBlock) (hat : v.ownBlock = some g ∨ g = H) (hH : H = W.heap.size) :
    ∃ sv', KR C w1 bx n2 sk rl fld nx sv' W' (.slice (some ⟨g, 0, none⟩) (acc.length + 1) cap) (acc ++ [(q, is)]) := by
  subst hH
  have hat' : (Value.slice (some ⟨g, 0, none⟩) (acc.length + 1) cap).ownBlock = v.ownBlock ∨ (Value.slice (some ⟨g, 0, none⟩) (acc.length + 1) cap).ownBlock = some W.heap.size := by
    rcases hat with hat | hat
    · exact .inl hat.symm
    · exact .inr (by rw [hat]; rfl)
  have hu' : Steps (fun b => some b ≠ v.ownBlock ∧ C ≤ b) W u is := hu.keep (fun b hok hlt => ⟨rfl, fun e => by
    have h1 := h.own.lt b e.symm
    rcases hok.2 with h2 | h2 | h2
    · omega
    · omega
    · have := h2 b e.symm; omega, hok.1⟩) (Nat.le_refl _)
  obtain ⟨sv', hown', hst'⟩ := next_append h.steps hu' hown hg hat'
  have hne : ∀ b, some b ≠ v.ownBlock → b < W.heap.size → some b ≠ (Value.slice (some ⟨g, 0, none⟩) (acc.length + 1) cap).ownBlock := by
    intro b hb hlt
    rcases hat' with e | e
    · rw [e]; exact hb
    · rw [e]; intro e'; simp at e'; omega
  have hl : (acc ++ [(q, is)]).length = acc.length + 1 := by simp
  exact ⟨sv', ⟨h.bel.grown hg h.bel.size (fun k hk => (h.own.lt k hk).1), hown', hst', (hg.cell_far _ h.ltb h.neb).trans h.box0, (hg.cell_far _ h.ltb h.neb).trans h.box1, (hg.cell_far _ h.ltr h.ner).trans h.rel, Nat.lt_of_lt_of_le h.ltb hg.size, Nat.lt_of_lt_of_le h.ltr hg.size, hne _ h.neb h.ltb, hne _ h.ner h.ltr⟩⟩

theorem KR.app {W' : World} {g cap q H B0 : Nat} {is : List Nat} {u : Value} {s : ByteArray} {o : Obj} (h : KR C w1 bx n2 sk rl fld nx sv W v acc) (hu : Steps (fun b => C ≤ b ∧ (b < w1.heap.size ∨ B0 ≤ b)) W u is) (hk : ∀ k, v.ownBlock = some k → k < B0) (hq : nameOf q = s)
    (hown : W'.ownsRow w1.heap.size 115 2 (.slice (some ⟨g, 0, none⟩) (acc.length + 1) cap) (acc.length + 1) ((flat acc.length fun j => [.string (nameOf (acc.getD j default).1), sv j]) ++ [.string s, u])) (hg : (W.alloc o).grownBy W' v.ownBlock) (hat : v.ownBlock = some g ∨ g = H) (hH : H = W.heap.size + 1) :
    ∃ sv', KR C w1 bx n2 sk rl fld nx sv' W' (.slice (some ⟨g, 0, none⟩) (acc.length + 1) cap) (acc ++ [(q, is)]) := by
  subst hq
  refine (h.alloc o).append (H := H) ((hu.lift ((Below.refl _ W).alloc (Nat.le_refl _) o)).keep (fun b hok _ => ⟨rfl, hok.1, ?_⟩) (Nat.le_refl _)) hown hg hat (by simpa using hH)
  rcases hok.2 with h' | h'
  · exact .inl h'
  · exact .inr (.inr fun k hk' => Nat.lt_of_lt_of_le (hk k hk') h')

theorem KR.toKI (h : KR C w1 bx n2 sk rl fld nx sv W v acc) : Below w1.heap.size w1 W ∧ Next C w1.heap.size W v acc ∧ W.cell? ⟨bx, 0, none⟩ = some (.string n2) ∧ W.cell? ⟨bx, 1, none⟩ = some sk ∧ bx < W.heap.size ∧ some bx ≠ v.ownBlock :=
  ⟨h.bel, h.next, h.box0, h.box1, h.ltb, h.neb⟩
end Go.Proofs.YbulkcfwsFmt
