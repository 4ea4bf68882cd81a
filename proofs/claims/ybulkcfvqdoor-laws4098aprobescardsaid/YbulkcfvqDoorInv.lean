import Derived.Test.YbulkcfvqDoorInc
import Derived.Deep.RegionHeld3
import Derived.Deep.AppendLies
import Derived.Deep.DrawnRows
import Derived.Deep.DeepCutAuto
namespace Go.Proofs.YbulkcfvqDoor
open Go.RowKit

/-- The parts of a version. -/
structure Py where
  e : ByteArray
  r : ByteArray
  p : ByteArray
  o : ByteArray
  d : ByteArray
  l : ByteArray

/-- The cells of one, and of many. -/
def Py.cells (y : Py) : List Value := [.string y.e, .string y.r, .string y.p, .string y.o, .string y.d, .string y.l]
def cellsP (ys : List Py) : List Value := ys.flatMap Py.cells

theorem cellsP_append (xs ys : List Py) : cellsP (xs ++ ys) = cellsP xs ++ cellsP ys := by simp [cellsP]
theorem cellsP_length (ys : List Py) : (cellsP ys).length = ys.length * 6 := by
  induction ys with
  | nil => rfl
  | cons y ys ih =>
    show (y.cells ++ cellsP ys).length = _
    rw [List.length_append, ih]
    simp [Py.cells]
    omega

/-- The six cells lie at block b. -/
def Box (w : World) (b : Nat) (y : Py) : Prop :=
  w.cell? ⟨b, 0, none⟩ = some (.string y.e) ∧ w.cell? ⟨b, 1, none⟩ = some (.string y.r) ∧ w.cell? ⟨b, 2, none⟩ = some (.string y.p) ∧ w.cell? ⟨b, 3, none⟩ = some (.string y.o) ∧ w.cell? ⟨b, 4, none⟩ = some (.string y.d) ∧ w.cell? ⟨b, 5, none⟩ = some (.string y.l)

theorem Box.lt {w : World} {b : Nat} {y : Py} (h : Box w b y) : b < w.heap.size := World.block_lt_of_cell? _ _ h.1

theorem Box.of {w w' : World} {b : Nat} {y : Py} (h : Box w b y) (hb : w'.heap[b]? = w.heap[b]?) : Box w' b y := by
  have hc : ∀ i, w'.cell? ⟨b, i, none⟩ = w.cell? ⟨b, i, none⟩ := fun i => World.cell?_of_block hb
  unfold Box
  rw [hc, hc, hc, hc, hc, hc]
  exact h

theorem Box.below {w w' : World} {b B : Nat} {y : Py} (h : Box w b y) (hb : Below B w w') (hB : b < B) : Box w' b y := h.of (hb.block b hB)
theorem Box.grown {w w' : World} {b : Nat} {row : Option Nat} {y : Py} (h : Box w b y) (hg : w.grownBy w' row) (hne : some b ≠ row) : Box w' b y := h.of (hg.block b h.lt hne)

/-- What holds while the slice of probes is built: from 'w0', where it was 'v0'; Y: the box of y. -/
structure Inv (w0 : World) (v0 : Value) (base Y : Nat) (y : Py) (w : World) (v : Value) (xs : List Py) : Prop where
  own : w.ownsRow base 27 6 v xs.length (cellsP xs)
  gr : w0.grownBy w v0.ownBlock
  box : Box w Y y
  free : v.ownBlock = v0.ownBlock ∨ ∃ g, v.ownBlock = some g ∧ Y < g
  hY : w0.heap.size ≤ Y
  hv0 : ∀ g, v0.ownBlock = some g → g < w0.heap.size
  hbase : base ≤ w0.heap.size

theorem Inv.size {w0 : World} {v0 : Value} {base Y : Nat} {y : Py} {w : World} {v : Value} {xs : List Py} (h : Inv w0 v0 base Y y w v xs) : base ≤ w.heap.size := Nat.le_trans h.hbase h.gr.size

theorem Inv.ne {w0 : World} {v0 : Value} {base Y : Nat} {y : Py} {w : World} {v : Value} {xs : List Py} (h : Inv w0 v0 base Y y w v xs) : some Y ≠ v.ownBlock := by
  intro e
  rcases h.free with hf | ⟨g, hg, hlt⟩
  · rw [hf] at e
    have := h.hv0 Y e.symm
    have := h.hY
    omega
  · rw [hg] at e
    cases e
    omega

theorem Inv.below {w0 : World} {v0 : Value} {base Y : Nat} {y : Py} {w w' : World} {v : Value} {xs : List Py} (hb : Below w.heap.size w w') (h : Inv w0 v0 base Y y w v xs) : Inv w0 v0 base Y y w' v xs := by
  refine ⟨h.own.kept (row := none) ⟨hb.os, hb.tape, hb.output, hb.size, fun k hk _ => hb.block k hk⟩ ?_, ?_, h.box.below hb h.box.lt, h.free, h.hY, h.hv0, h.hbase⟩
  · cases hv : v.ownBlock with
    | none => exact .inl rfl
    | some g => exact .inr (by simp)
  · exact ⟨hb.os.trans h.gr.os, hb.tape.trans h.gr.tape, hb.output.trans h.gr.output, Nat.le_trans h.gr.size hb.size, fun k hk hne => (hb.block k (Nat.lt_of_lt_of_le hk h.gr.size)).trans (h.gr.block k hk hne)⟩

theorem Inv.drew {w0 : World} {v0 : Value} {base Y : Nat} {y : Py} {w : World} {v : Value} {xs : List Py} (h : Inv w0 v0 base Y y w v xs) : Inv w0 v0 base Y y w.drew v xs := h.below ((Below.refl _ _).drew)
theorem Inv.alloc {w0 : World} {v0 : Value} {base Y : Nat} {y : Py} {w : World} {v : Value} {xs : List Py} (h : Inv w0 v0 base Y y w v xs) (o : Obj) : Inv w0 v0 base Y y (w.alloc o) v xs := h.below ((Below.refl _ _).alloc (Nat.le_refl _) o)

theorem Inv.append {w0 : World} {v0 : Value} {base Y : Nat} {y : Py} {w w' : World} {v v' : Value} {xs ys : List Py} {n : Nat} (h : Inv w0 v0 base Y y w v xs) (hn : n = (xs ++ ys).length) (hown : w'.ownsRow base 27 6 v' n (cellsP xs ++ cellsP ys)) (hg : w.grownBy w' v.ownBlock) (hat : v'.ownBlock = v.ownBlock ∨ v'.ownBlock = some w.heap.size) : Inv w0 v0 base Y y w' v' (xs ++ ys) := by
  refine ⟨by rw [cellsP_append, ← hn]; exact hown, ?_, h.box.grown hg h.ne, ?_, h.hY, h.hv0, h.hbase⟩
  · refine ⟨hg.os.trans h.gr.os, hg.tape.trans h.gr.tape, hg.output.trans h.gr.output, Nat.le_trans h.gr.size hg.size, fun k hk hne => (hg.block k (Nat.lt_of_lt_of_le hk h.gr.size) ?_).trans (h.gr.block k hk hne)⟩
    rcases h.free with hf | ⟨g, hg', hlt⟩
    · rw [hf]; exact hne
    · rw [hg']
      intro e
      cases e
      have := h.hY
      omega
  · rcases hat with hat | hat
    · rw [hat]; exact h.free
    · exact .inr ⟨_, hat, h.box.lt⟩

theorem info25 : (Ybad.prog.info? 27).map (fun i => (i.zero, i.size, i.bytes)) = some (some (.agg #[.string { data := #[] }, .string { data := #[] }, .string { data := #[] }, .string { data := #[] }, .string { data := #[] }, .string { data := #[] }]), 6, 96) := by kernel_rfl

/-- Is one of the four not empty? -/
def anyB (p o d l : ByteArray) : Bool := !(p.toList.isEmpty && o.toList.isEmpty && d.toList.isEmpty && l.toList.isEmpty)
theorem neq_base (e r p o d l : ByteArray) (w : World) :
    (binOp .neq 27 (.agg #[.string e, .string r, .string p, .string o, .string d, .string l]) (.agg #[.string e, .string r, .string { data := #[] }, .string { data := #[] }, .string { data := #[] }, .string { data := #[] }])).run Ybad.prog w = .ok (.bool (anyB p o d l)) w := by
  unfold anyB
  cases hp : p.toList.isEmpty <;> cases ho : o.toList.isEmpty <;> cases hd : d.toList.isEmpty <;> cases hl : l.toList.isEmpty
  all_goals go_simp

/-! ### The leaves, told by 'Below' -/
theorem base_bel (e r p o d l : ByteArray) (w : World) :
    Calls Ybad.prog 8 #[.agg #[.string e, .string r, .string p, .string o, .string d, .string l]] w fun en w' =>
      en = .returned (.agg #[.string e, .string r, .string { data := #[] }, .string { data := #[] }, .string { data := #[] }, .string { data := #[] }]) ∧ Below w.heap.size w w' :=
  (base_any e r p o d l w).mono fun en w' ⟨h1, h2⟩ => ⟨h1, by rw [h2]; exact ((Below.refl _ _).alloc (Nat.le_refl _) _).alloc (by simp) _⟩
theorem withDev_bel (e r p o d l x : ByteArray) (w : World) :
    Calls Ybad.prog 9 #[.agg #[.string e, .string r, .string p, .string o, .string d, .string l], .string x] w fun en w' =>
      en = .returned (.agg #[.string e, .string r, .string p, .string o, .string x, .string l]) ∧ Below w.heap.size w w' :=
  (withDev_any e r p o d l x w).mono fun en w' ⟨h1, h2⟩ => ⟨h1, by rw [h2]; exact ((Below.refl _ _).alloc (Nat.le_refl _) _).alloc (by simp) _⟩
theorem withPost_bel (e r p o d l x : ByteArray) (w : World) :
    Calls Ybad.prog 11 #[.agg #[.string e, .string r, .string p, .string o, .string d, .string l], .string x] w fun en w' =>
      en = .returned (.agg #[.string e, .string r, .string p, .string x, .string d, .string l]) ∧ Below w.heap.size w w' :=
  (withPost_any e r p o d l x w).mono fun en w' ⟨h1, h2⟩ => ⟨h1, by rw [h2]; exact ((Below.refl _ _).alloc (Nat.le_refl _) _).alloc (by simp) _⟩
theorem withPre_bel (e r p o d l x : ByteArray) (w : World) :
    Calls Ybad.prog 12 #[.agg #[.string e, .string r, .string p, .string o, .string d, .string l], .string x] w fun en w' =>
      en = .returned (.agg #[.string e, .string r, .string x, .string o, .string d, .string l]) ∧ Below w.heap.size w w' :=
  (withPre_any e r p o d l x w).mono fun en w' ⟨h1, h2⟩ => ⟨h1, by rw [h2]; exact ((Below.refl _ _).alloc (Nat.le_refl _) _).alloc (by simp) _⟩
end Go.Proofs.YbulkcfvqDoor
