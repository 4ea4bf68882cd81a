import Derived.Test.YbulkcfvqDoorNear
import Derived.Test.YbulkcfvqDoorDec
namespace Go.Proofs.YbulkcfvqDoor
open Go.RowKit

/-- s where c, else the empty string. -/
def pickB (c : Bool) (s : ByteArray) : ByteArray := bif c then s else { data := #[] }

/-- The argument's cells. -/
def parL (E R L : ByteArray) (hp ho hd : Bool) (mkn pn on dn kp : Nat) : List Value :=
  [.string E, .string R, .string L, .bool hp, .bool ho, .bool hd, .int .u8 mkn, .int .u16 pn, .int .u16 on, .int .u16 dn, .int .u8 kp]

/-- What holds while y is made. -/
structure A (w0 : World) (par : List Value) (y : Py) (w : World) : Prop where
  bel : Below w0.heap.size w0 w
  par : ∀ i u, par[i]? = some u → w.cell? ⟨w0.heap.size, i, none⟩ = some u
  box : Box w (w0.heap.size + 1 + 1) y
  frz : ∀ i, i < 6 → w.frozen? ⟨w0.heap.size + 1 + 1, i, none⟩ = false

theorem A.lt {w0 : World} {par : List Value} {y : Py} {w : World} (h : A w0 par y w) : w0.heap.size + 1 + 1 < w.heap.size := h.box.lt

theorem A.below {w0 : World} {par : List Value} {y : Py} {w w' : World} (h : A w0 par y w) (hb : Below w.heap.size w w') : A w0 par y w' := by
  have hl := h.lt
  refine ⟨h.bel.trans (hb.mono (by omega)), fun i u hu => ?_, h.box.below hb (by omega), fun i hi => ?_⟩
  · rw [hb.cell (p := ⟨w0.heap.size, i, none⟩) (by show w0.heap.size < _; omega)]
    exact h.par i u hu
  · rw [hb.frozen (p := ⟨w0.heap.size + 1 + 1, i, none⟩) hl]
    exact h.frz i hi

theorem A.set {w0 : World} {par : List Value} {y y' : Py} {w : World} (h : A w0 par y w) (k : Nat) (s : ByteArray) (hk : y'.cells = y.cells.set k (.string s)) : A w0 par y' (w.setCell ⟨w0.heap.size + 1 + 1, k, none⟩ (.string s)) := by
  have hne : ∀ i j, (⟨w0.heap.size + 1 + 1, i, none⟩ : Addr) ≠ ⟨w0.heap.size, j, none⟩ := fun i j e => by injection e with h1; omega
  refine ⟨h.bel.setCell (by show w0.heap.size ≤ w0.heap.size + 1 + 1; omega) _, fun i u hu => ?_, ?_, fun i hi => ?_⟩
  · rw [World.cell?_setCell_other _ _ _ _ (hne k i)]
    exact h.par i u hu
  · obtain ⟨b0, b1, b2, b3, b4, b5⟩ := h.box
    have key : ∀ i u, y.cells[i]? = some u → w.cell? ⟨w0.heap.size + 1 + 1, i, none⟩ = some u := by
      intro i u hu
      match i, hu with
      | 0, hu => simp [Py.cells] at hu; rw [← hu]; exact b0
      | 1, hu => simp [Py.cells] at hu; rw [← hu]; exact b1
      | 2, hu => simp [Py.cells] at hu; rw [← hu]; exact b2
      | 3, hu => simp [Py.cells] at hu; rw [← hu]; exact b3
      | 4, hu => simp [Py.cells] at hu; rw [← hu]; exact b4
      | 5, hu => simp [Py.cells] at hu; rw [← hu]; exact b5
      | (n + 6), hu => simp [Py.cells] at hu
    have key' : ∀ i u, y'.cells[i]? = some u → (w.setCell ⟨w0.heap.size + 1 + 1, k, none⟩ (.string s)).cell? ⟨w0.heap.size + 1 + 1, i, none⟩ = some u := by
      intro i u hu
      rw [hk] at hu
      by_cases e : k = i
      · subst e
        rw [List.getElem?_set] at hu
        rw [if_pos rfl] at hu
        by_cases hlt : k < y.cells.length
        · rw [if_pos hlt] at hu
          cases hu
          exact World.cell?_setCell_same _ _ _ (key k _ (List.getElem?_eq_getElem hlt))
        · rw [if_neg hlt] at hu
          cases hu
      · rw [List.getElem?_set, if_neg e] at hu
        rw [World.cell?_setCell_other _ _ _ _ (by intro h; cases h; exact e rfl)]
        exact key i u hu
    exact ⟨key' 0 _ rfl, key' 1 _ rfl, key' 2 _ rfl, key' 3 _ rfl, key' 4 _ rfl, key' 5 _ rfl⟩
  · rw [World.frozen?_setCell]
    exact h.frz i hi

theorem A.pars {w0 : World} {E R L : ByteArray} {hp ho hd : Bool} {mkn pn on dn kp : Nat} {y : Py} {w : World} (h : A w0 (parL E R L hp ho hd mkn pn on dn kp) y w) :
    w.cell? ⟨w0.heap.size, 0, none⟩ = some (.string E) ∧ w.cell? ⟨w0.heap.size, 1, none⟩ = some (.string R) ∧ w.cell? ⟨w0.heap.size, 2, none⟩ = some (.string L) ∧ w.cell? ⟨w0.heap.size, 3, none⟩ = some (.bool hp) ∧ w.cell? ⟨w0.heap.size, 4, none⟩ = some (.bool ho) ∧ w.cell? ⟨w0.heap.size, 5, none⟩ = some (.bool hd) ∧
    w.cell? ⟨w0.heap.size, 7, none⟩ = some (.int .u16 pn) ∧ w.cell? ⟨w0.heap.size, 8, none⟩ = some (.int .u16 on) ∧ w.cell? ⟨w0.heap.size, 9, none⟩ = some (.int .u16 dn) ∧ w.cell? ⟨w0.heap.size, 10, none⟩ = some (.int .u8 kp) :=
  ⟨h.par 0 _ rfl, h.par 1 _ rfl, h.par 2 _ rfl, h.par 3 _ rfl, h.par 4 _ rfl, h.par 5 _ rfl, h.par 7 _ rfl, h.par 8 _ rfl, h.par 9 _ rfl, h.par 10 _ rfl⟩

theorem A_start (w : World) (E R L : ByteArray) (hp ho hd : Bool) (mkn pn on dn kp : Nat) : A w (parL E R L hp ho hd mkn pn on dn kp) ⟨E, R, { data := #[] }, { data := #[] }, { data := #[] }, L⟩ (((w.alloc (.cells #[.string E, .string R, .string L, .bool hp, .bool ho, .bool hd, .int .u8 mkn, .int .u16 pn, .int .u16 on, .int .u16 dn, .int .u8 kp] 24)).alloc (.cells #[.string { data := #[97] }, .string { data := #[98] }, .string { data := #[114, 99] }] 25)).alloc (.cells #[.string E, .string R, .string { data := #[] }, .string { data := #[] }, .string { data := #[] }, .string L] 27)) := by
  refine ⟨((((Below.refl _ _).alloc (Nat.le_refl _) _).alloc (by simp) _).alloc (by simp; omega) _), ?_, ?_, ?_⟩
  · intro i u hu
    refine Lib.cell?_alloc_some _ (Lib.cell?_alloc_some _ ?_)
    have := World.news_of_block (heap_alloc_new w (.cells #[.string E, .string R, .string L, .bool hp, .bool ho, .bool hd, .int .u8 mkn, .int .u16 pn, .int .u16 on, .int .u16 dn, .int .u8 kp] 24)) i u hu
    rw [Addr.add_lit, Nat.zero_add] at this
    exact this
  · refine ⟨?_, ?_, ?_, ?_, ?_, ?_⟩ <;> go_simp
  · intro i hi
    go_simp

theorem A.grown {w0 : World} {par : List Value} {y : Py} {w w' : World} {row : Option Nat} (h : A w0 par y w) (hg : w.grownBy w' row) (hr : ∀ g, row = some g → w0.heap.size + 1 + 1 < g) : A w0 par y w' := by
  have hl := h.lt
  have hk : ∀ k, k ≤ w0.heap.size + 1 + 1 → w'.heap[k]? = w.heap[k]? := fun k hk => hg.block k (by omega) (fun e => by have := hr k e.symm; omega)
  refine ⟨⟨hg.os.trans h.bel.os, hg.tape.trans h.bel.tape, hg.output.trans h.bel.output, Nat.le_trans h.bel.size hg.size, fun k hk' => (hk k (by omega)).trans (h.bel.block k hk')⟩, fun i u hu => ?_, h.box.of (hk _ (Nat.le_refl _)), fun i hi => ?_⟩
  · rw [World.cell?_of_block (a := ⟨w0.heap.size, i, none⟩) (hk w0.heap.size (by omega))]
    exact h.par i u hu
  · rw [World.frozen?_of_block (a := ⟨w0.heap.size + 1 + 1, i, none⟩) (hk _ (Nat.le_refl _))]
    exact h.frz i hi

/-- What holds while the two lists are built. -/
structure G (w0 : World) (par : List Value) (y : Py) (vn : Value) (xn : List Py) (gW : Nat) (xw : List Py) (w : World) : Prop where
  a : A w0 par y w
  nown : w.ownsRow w0.heap.size 27 6 vn xn.length (cellsP xn)
  wown : w.ownsRow w0.heap.size 27 6 (.slice (some ⟨gW, 0, none⟩) xw.length 16) xw.length (cellsP xw)
  far : ∀ g, vn.ownBlock = some g → w0.heap.size + 1 + 1 < g ∧ g ≠ gW
  hW : w0.heap.size + 1 + 1 < gW

section
variable {w0 : World} {par : List Value} {y : Py} {vn vn' : Value} {xn xn' ys : List Py} {gW : Nat} {xw : List Py} {w w' : World}

theorem kept_below {v : Value} {base n : Nat} {xs : List Value} (h : w.ownsRow base 27 6 v n xs) (hb : Below w.heap.size w w') : w'.ownsRow base 27 6 v n xs :=
  h.kept (row := none) ⟨hb.os, hb.tape, hb.output, hb.size, fun k hk _ => hb.block k hk⟩ (by cases v.ownBlock <;> simp)

theorem G.below (h : G w0 par y vn xn gW xw w) (hb : Below w.heap.size w w') : G w0 par y vn xn gW xw w' :=
  ⟨h.a.below hb, kept_below h.nown hb, kept_below h.wown hb, h.far, h.hW⟩
theorem G.alloc (h : G w0 par y vn xn gW xw w) (o : Obj) : G w0 par y vn xn gW xw (w.alloc o) := h.below ((Below.refl _ _).alloc (Nat.le_refl _) o)

theorem G.size (h : G w0 par y vn xn gW xw w) : w0.heap.size ≤ w.heap.size := h.a.bel.size

theorem G.wapp {n : Nat} (h : G w0 par y vn xn gW xw w) (hn : n = (xw ++ ys).length) (hown : w'.ownsRow w0.heap.size 27 6 (.slice (some ⟨gW, 0, none⟩) n 16) n (cellsP xw ++ cellsP ys)) (hg : w.grownBy w' (some gW)) : G w0 par y vn xn gW (xw ++ ys) w' := by
  refine ⟨h.a.grown hg (fun g e => by cases e; exact h.hW), h.nown.kept hg ?_, by rw [cellsP_append, ← hn]; exact hown, h.far, h.hW⟩
  cases hv : vn.ownBlock with
  | none => exact .inl rfl
  | some g =>
    right
    intro e
    cases e
    exact (h.far gW hv).2 rfl

theorem G.napp {n g cap : Nat} (h : G w0 par y (.slice (some ⟨g, 0, none⟩) xn.length cap) xn gW xw w) (hn : n = (xn ++ ys).length) (hown : w'.ownsRow w0.heap.size 27 6 (.slice (some ⟨g, 0, none⟩) n cap) n (cellsP xn ++ cellsP ys)) (hg : w.grownBy w' (some g)) : G w0 par y (.slice (some ⟨g, 0, none⟩) n cap) (xn ++ ys) gW xw w' := by
  have hf := h.far g rfl
  refine ⟨h.a.grown hg (fun g' e => by cases e; exact hf.1), by rw [cellsP_append, ← hn]; exact hown, h.wown.kept hg (.inr ?_), fun g' e => by cases e; exact hf, h.hW⟩
  intro e
  cases e
  exact hf.2 rfl

theorem G.near {e r p o d l : ByteArray} (h : G w0 par ⟨e, r, p, o, d, l⟩ vn xn gW xw w) (hN : NearTo w vn w0.heap.size ⟨e, r, p, o, d, l⟩ xn vn' w') :
    ∃ di oi n1 n2, (neB d = true → IncTo d di) ∧ (neB d = false → neB o = true → IncTo o oi) ∧ (neB p = true → NextTo p n1 ∧ NextTo p n2) ∧
      G w0 par ⟨e, r, p, o, d, l⟩ vn' (xn ++ segA ⟨e, r, p, o, d, l⟩ ++ segB ⟨e, r, p, o, d, l⟩ di oi ++ segC ⟨e, r, p, o, d, l⟩ n1 n2) gW xw w' := by
  obtain ⟨di, oi, n1, n2, h1, h2, h3, hown, hg, hat⟩ := hN
  have hlt : gW < w.heap.size := (h.wown.lt gW rfl).2
  refine ⟨di, oi, n1, n2, h1, h2, h3, h.a.grown hg (fun g e => (h.far g e).1), hown, h.wown.kept hg (.inr ?_), ?_, h.hW⟩
  · intro e
    exact (h.far gW e.symm).2 rfl
  · intro g hv
    rcases hat with hat | ⟨g', hg', hle⟩
    · rw [hat] at hv
      exact h.far g hv
    · rw [hg'] at hv
      cases hv
      have := h.a.lt
      exact ⟨by omega, by omega⟩
end

/-- The two lists' first part. -/
def psl (k : Nat) : List Py := (List.range k).map fun i => ⟨{ data := #[] }, dec i, { data := #[] }, { data := #[] }, { data := #[55] }, { data := #[] }⟩
theorem psl_succ (k : Nat) : psl (k + 1) = psl k ++ [⟨{ data := #[] }, dec k, { data := #[] }, { data := #[] }, { data := #[55] }, { data := #[] }⟩] := by simp [psl, List.range_succ]
theorem psl_len (k : Nat) : (psl k).length = k := by simp [psl]
end Go.Proofs.YbulkcfvqDoor

namespace Go.Proofs.YbulkcfvqDoor
open Go.RowKit

theorem ne_dec (n : Nat) : neB (dec n) = true := by
  unfold neB
  rw [ByteArray.toList_eq]
  show (!(Lib.decDigits n).isEmpty) = true
  cases h : Lib.decDigits n with
  | nil => exact absurd h (dec_pos n)
  | cons a l => rfl

theorem ne_mk (a : ByteArray) (n : Nat) : neB (a ++ dec n) = true := by
  unfold neB
  rw [ByteArray.toList_eq, ByteArray.data_append, Array.toList_append]
  have h := ne_dec n
  unfold neB at h
  rw [ByteArray.toList_eq] at h
  cases h1 : (dec n).data.toList with
  | nil => rw [h1] at h; cases h
  | cons b l => simp

theorem ne_nil : neB { data := #[] } = false := by unfold neB; rw [ByteArray.toList_eq]; rfl

theorem ne_pick {c : Bool} {s t : ByteArray} (h : pickB c s = t) (hs : neB s = true) : neB t = c := by
  subst h
  cases c
  · exact ne_nil
  · exact hs

/-- The list that the law wants. -/
def wantB (y : Py) (ho hd : Bool) (on dn : Nat) : List Py :=
  bif hd then { y with d := dec (dn + 1) } :: (bif ho then [{ y with d := { data := #[] } }] else [])
  else bif ho then [{ y with o := dec (on + 1), d := { data := #[48] } }, { y with o := dec (on + 1) }] else []
def wantC (y : Py) (hp : Bool) (mk : ByteArray) (pn : Nat) : List Py :=
  bif hp then [⟨y.e, y.r, y.p, { data := #[] }, { data := #[] }, { data := #[] }⟩, ⟨y.e, y.r, y.p, { data := #[48] }, { data := #[48] }, { data := #[] }⟩, ⟨y.e, y.r, y.p, { data := #[48] }, { data := #[] }, { data := #[] }⟩,
    ⟨y.e, y.r, mk ++ dec (pn + 1), { data := #[] }, { data := #[48] }, { data := #[] }⟩, ⟨y.e, y.r, mk ++ dec (pn + 1), { data := #[] }, { data := #[] }, { data := #[] }⟩] else []

theorem segB_want {E R P O D L di oi : ByteArray} {ho hd : Bool} {on dn : Nat} (hO : pickB ho (dec on) = O) (hD : pickB hd (dec dn) = D) (k1 : neB D = true → IncTo D di) (k2 : neB D = false → neB O = true → IncTo O oi) :
    segB ⟨E, R, P, O, D, L⟩ di oi = wantB ⟨E, R, P, O, D, L⟩ ho hd on dn := by
  have eO := ne_pick hO (ne_dec on)
  have eD := ne_pick hD (ne_dec dn)
  unfold segB wantB
  simp only [eO, eD]
  cases hd
  · cases ho
    · rfl
    · have h := k2 eD eO
      rw [← hO] at h
      have := IncTo.dec (n := on) h
      rw [this]
      rfl
  · have h := k1 eD
    rw [← hD] at h
    have := IncTo.dec (n := dn) h
    rw [this]
    rfl

theorem segC_want {E R P O D L n1 n2 mk : ByteArray} {hp : Bool} {pn : Nat} (hM : Mk mk) (hP : pickB hp (mk ++ dec pn) = P) (k3 : neB P = true → NextTo P n1 ∧ NextTo P n2) :
    segC ⟨E, R, P, O, D, L⟩ n1 n2 = wantC ⟨E, R, P, O, D, L⟩ hp mk pn := by
  have eP := ne_pick hP (ne_mk mk pn)
  unfold segC wantC
  simp only [eP]
  cases hp
  · rfl
  · obtain ⟨h1, h2⟩ := k3 eP
    rw [← hP] at h1 h2
    have e1 := NextTo.dec hM (n := pn) h1
    have e2 := NextTo.dec hM (n := pn) h2
    rw [e1, e2]

/-- What holds of 'want' and the world. -/
def W2 (w0 : World) (par : List Value) (y : Py) (vg : Value) (xg : List Py) (gW : Nat) (xw : List Py) (v : Value) (w : World) : Prop :=
  v = .slice (some ⟨gW, 0, none⟩) xw.length 16 ∧ G w0 par y vg xg gW xw w

theorem segA_len' (y : Py) : (segA y).length ≤ 1 := segA_len y
theorem wantB_len (y : Py) (ho hd : Bool) (on dn : Nat) : (wantB y ho hd on dn).length ≤ 2 := by unfold wantB; cases hd <;> cases ho <;> simp
theorem wantC_len (y : Py) (hp : Bool) (mk : ByteArray) (pn : Nat) : (wantC y hp mk pn).length ≤ 5 := by unfold wantC; cases hp <;> simp
end Go.Proofs.YbulkcfvqDoor

namespace Go.Proofs.YbulkcfvqDoor
open Go.RowKit

theorem grownBy_set (w : World) (b i : Nat) (v : Value) : w.grownBy (w.setCell ⟨b, i, none⟩ v) (some b) :=
  ⟨rfl, rfl, rfl, by simp [World.setCell], fun k _ hne => Below.heap_setCell w ⟨b, i, none⟩ v k (fun e => hne (by rw [e]))⟩

theorem G.other {w0 : World} {par : List Value} {y : Py} {vn : Value} {xn : List Py} {gW : Nat} {xw : List Py} {w w' : World} {Z : Nat} (h : G w0 par y vn xn gW xw w) (hg : w.grownBy w' (some Z)) (hZ : w0.heap.size + 1 + 1 < Z) (h1 : vn.ownBlock ≠ some Z) (h2 : gW ≠ Z) : G w0 par y vn xn gW xw w' :=
  ⟨h.a.grown hg (fun g e => by cases e; exact hZ), h.nown.kept hg (.inr h1), h.wown.kept hg (.inr (by intro e; cases e; exact h2 rfl)), h.far, h.hW⟩

/-- A block that is made now is none of those that are owned. -/
theorem G.fresh {w0 : World} {par : List Value} {y : Py} {vn : Value} {xn : List Py} {gW : Nat} {xw : List Py} {w : World} (h : G w0 par y vn xn gW xw w) : vn.ownBlock ≠ some w.heap.size ∧ gW ≠ w.heap.size ∧ w0.heap.size + 1 + 1 < w.heap.size := by
  refine ⟨fun e => ?_, fun e => ?_, h.a.lt⟩
  · have := (h.nown.lt _ e).2
    omega
  · have := (h.wown.lt gW rfl).2
    omega

theorem news1B (w : World) (B : Nat) (hB : B = w.heap.size) (a b c d e f : ByteArray) : ∀ j u, (cellsP [⟨a, b, c, d, e, f⟩])[j]? = some u → (w.alloc (.cells #[.string a, .string b, .string c, .string d, .string e, .string f] 27)).cell? ((⟨B, 0, none⟩ : Addr).add j) = some u := by
  subst hB
  exact news1 w a b c d e f
theorem news2B (w : World) (B : Nat) (hB : B = w.heap.size) (a b c d e f a' b' c' d' e' f' : ByteArray) : ∀ j u, (cellsP [⟨a, b, c, d, e, f⟩, ⟨a', b', c', d', e', f'⟩])[j]? = some u → (w.alloc (.cells #[.string a, .string b, .string c, .string d, .string e, .string f, .string a', .string b', .string c', .string d', .string e', .string f'] 27)).cell? ((⟨B, 0, none⟩ : Addr).add j) = some u := by
  subst hB
  exact news2 w a b c d e f a' b' c' d' e' f'
theorem news5B (w : World) (B : Nat) (hB : B = w.heap.size) (a b c d e f a' b' c' d' e' f' a2 b2 c2 d2 e2 f2 a3 b3 c3 d3 e3 f3 a4 b4 c4 d4 e4 f4 : ByteArray) : ∀ j u, (cellsP [⟨a, b, c, d, e, f⟩, ⟨a', b', c', d', e', f'⟩, ⟨a2, b2, c2, d2, e2, f2⟩, ⟨a3, b3, c3, d3, e3, f3⟩, ⟨a4, b4, c4, d4, e4, f4⟩])[j]? = some u → (w.alloc (.cells #[.string a, .string b, .string c, .string d, .string e, .string f, .string a', .string b', .string c', .string d', .string e', .string f', .string a2, .string b2, .string c2, .string d2, .string e2, .string f2, .string a3, .string b3, .string c3, .string d3, .string e3, .string f3, .string a4, .string b4, .string c4, .string d4, .string e4, .string f4] 27)).cell? ((⟨B, 0, none⟩ : Addr).add j) = some u := by
  subst hB
  exact news5 w a b c d e f a' b' c' d' e' f' a2 b2 c2 d2 e2 f2 a3 b3 c3 d3 e3 f3 a4 b4 c4 d4 e4 f4

/-- The box that is made now, seen behind a call that only makes. -/
theorem box_after {w w' : World} {a b c d e f : ByteArray} (hb : Below (w.alloc (.cells #[.string a, .string b, .string c, .string d, .string e, .string f] 27)).heap.size (w.alloc (.cells #[.string a, .string b, .string c, .string d, .string e, .string f] 27)) w') :
    Box w' w.heap.size ⟨a, b, c, d, e, f⟩ ∧ (∀ i, i < 6 → w'.frozen? ⟨w.heap.size, i, none⟩ = false) := by
  constructor
  · refine Box.below (w := w.alloc (.cells #[.string a, .string b, .string c, .string d, .string e, .string f] 27)) ?_ hb (by simp)
    refine ⟨?_, ?_, ?_, ?_, ?_, ?_⟩ <;> go_simp
  · intro i _
    rw [hb.frozen (p := ⟨w.heap.size, i, none⟩) (by simp)]
    go_simp
end Go.Proofs.YbulkcfvqDoor

namespace Go.Proofs.YbulkcfvqDoor
open Go.RowKit

/-- Three boxes that are made now, seen behind a call that only makes. -/
theorem box_after3 {w w' : World} {a b c d e f a1 b1 c1 d1 e1 f1 a2 b2 c2 d2 e2 f2 : ByteArray}
    (hb : Below (((w.alloc (.cells #[.string a, .string b, .string c, .string d, .string e, .string f] 27)).alloc (.cells #[.string a1, .string b1, .string c1, .string d1, .string e1, .string f1] 27)).alloc (.cells #[.string a2, .string b2, .string c2, .string d2, .string e2, .string f2] 27)).heap.size
      (((w.alloc (.cells #[.string a, .string b, .string c, .string d, .string e, .string f] 27)).alloc (.cells #[.string a1, .string b1, .string c1, .string d1, .string e1, .string f1] 27)).alloc (.cells #[.string a2, .string b2, .string c2, .string d2, .string e2, .string f2] 27)) w') :
    Box w' w.heap.size ⟨a, b, c, d, e, f⟩ ∧ Box w' (w.heap.size + 1) ⟨a1, b1, c1, d1, e1, f1⟩ ∧ Box w' (w.heap.size + 1 + 1) ⟨a2, b2, c2, d2, e2, f2⟩ := by
  refine ⟨Box.below ?_ hb (by simp; omega), Box.below ?_ hb (by simp), Box.below ?_ hb (by simp)⟩
  all_goals
    refine ⟨?_, ?_, ?_, ?_, ?_, ?_⟩ <;> go_simp
end Go.Proofs.YbulkcfvqDoor

namespace Go.Proofs.YbulkcfvqDoor
open Go.RowKit

theorem cell_at : ∀ (X : List Py) (i : Nat), i < X.length → ∃ y : Py, (cellsP X)[i * 6]? = some (.string y.e) ∧ (cellsP X)[i * 6 + 1]? = some (.string y.r) ∧ (cellsP X)[i * 6 + 2]? = some (.string y.p) ∧ (cellsP X)[i * 6 + 3]? = some (.string y.o) ∧ (cellsP X)[i * 6 + 4]? = some (.string y.d) ∧ (cellsP X)[i * 6 + 5]? = some (.string y.l) := by
  intro X
  induction X with
  | nil => intro i hi; simp at hi
  | cons y ys ih =>
    intro i hi
    have e0 : cellsP (y :: ys) = y.cells ++ cellsP ys := rfl
    have hl : y.cells.length = 6 := rfl
    cases i with
    | zero => exact ⟨y, rfl, rfl, rfl, rfl, rfl, rfl⟩
    | succ i =>
      obtain ⟨z, h0, h1, h2, h3, h4, h5⟩ := ih i (by simpa using hi)
      refine ⟨z, ?_⟩
      have key : ∀ j, (cellsP (y :: ys))[(i + 1) * 6 + j]? = (cellsP ys)[i * 6 + j]? := fun j => by
        rw [e0, List.getElem?_append_right (by rw [hl]; omega), hl, show (i + 1) * 6 + j - 6 = i * 6 + j from by omega]
      exact ⟨(key 0).trans h0, (key 1).trans h1, (key 2).trans h2, (key 3).trans h3, (key 4).trans h4, (key 5).trans h5⟩

/-- A slice of parts, as the loop at the end reads it. -/
theorem own_form {w : World} {base : Nat} {v : Value} {X : List Py} (h : w.ownsRow base 27 6 v X.length (cellsP X)) :
    ∃ a cap, v = .slice a X.length cap ∧ (X.length = 0 ∨ ∃ g, a = some ⟨g, 0, none⟩ ∧ ∀ j, j < X.length * 6 → w.cell? ⟨g, j, none⟩ = (cellsP X)[j]?) := by
  have h' := h
  rcases h'.2 with ⟨rfl, h0⟩ | ⟨g, cap, cur, rfl, -, -, -, -, -, -⟩
  · exact ⟨none, 0, by rw [h0], .inl h0⟩
  · exact ⟨_, cap, rfl, .inr ⟨g, rfl, fun j hj => h.cellAt j hj⟩⟩
end Go.Proofs.YbulkcfvqDoor
