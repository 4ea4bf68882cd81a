import Derived.Test.YbulkcfwsFmtLawA
import Derived.ProofKit
import Derived.OpenShut
import Derived.Deep.Matrix
namespace Go.Proofs.YbulkcfwsFmt
open Go.ChangeShapes Go.WideShapes Go.ChangeAt Go.RowKit Go.Deep

theorem cells5 : Ybaf.prog.cellsOf 5 = 1 := by kernel_rfl
theorem cells23 : Ybaf.prog.cellsOf 23 = 1 := by kernel_rfl
theorem cells32 : Ybaf.prog.cellsOf 32 = 7 := by kernel_rfl

theorem addr_plain {W : World} {a : Addr} {v : Value} (h : W.cell? a = some v) : a = ⟨a.block, a.off, none⟩ ∧ a.block < W.heap.size := by
  obtain ⟨b, o, s⟩ := a
  unfold World.cell? at h
  split at h
  · rename_i c t fr he
    cases s with
    | none => exact ⟨rfl, (Array.getElem?_eq_some_iff.1 he).1⟩
    | some _ => simp at h
  · cases h

theorem add_plain (b o j : Nat) : (⟨b, o, none⟩ : Addr).add j = ⟨b, o + j, none⟩ := by
  unfold Addr.add
  split
  · rename_i e; subst e; rfl
  · rfl

theorem flat_lenM {n m : Nat} {f : Nat → List Value} (h : ∀ i, i < n → (f i).length = m) : (flat n f).length = n * m := by
  unfold flat
  induction n with
  | zero => simp
  | succ n ih => rw [List.range_succ, List.flatMap_append, List.length_append, ih (fun i hi => h i (by omega))]; simp [h n (by omega), Nat.succ_mul]

theorem row_flat {W : World} {a : Addr} {n cap m : Nat} (hm : 0 < m) (hcap : n ≤ cap) (f : Nat → List Value) (hf : ∀ i, i < n → (f i).length = m)
    (h : ∀ i, i < n → ∀ j u, (f i)[j]? = some u → W.cell? (a.add (i * m + j)) = some u) : Row AnyB W (.slice (some a) n cap) n m (flat n f) := by
  refine ⟨flat_lenM hf, some a, cap, rfl, hcap, ?_⟩
  by_cases h0 : n = 0
  · exact .inl h0
  right
  have hl := hf 0 (by omega)
  have h1 := h 0 (by omega) 0 _ (List.getElem?_eq_getElem (by omega))
  rw [show a.add (0 * m + 0) = a by simp [Addr.add]] at h1
  obtain ⟨e1, e2⟩ := addr_plain h1
  refine ⟨a.block, a.off, by rw [← e1], trivial, e2, fun j u hj => ?_⟩
  have hj2 : j < n * m := by
    have := (List.getElem?_eq_some_iff.1 hj).1
    rwa [flat_lenM hf] at this
  have hi : j / m < n := (Nat.div_lt_iff_lt_mul hm).2 hj2
  have hr : j % m < m := Nat.mod_lt _ hm
  have hd : j / m * m + j % m = j := by rw [Nat.mul_comm]; exact Nat.div_add_mod j m
  have hj3 : (f (j / m))[j % m]? = some u := by
    rw [← flat_get hf hi hr, hd]
    exact hj
  have h2 := h (j / m) hi (j % m) u hj3
  rw [hd, e1, add_plain] at h2
  exact h2

section
variable {H : Type} {enc : TypeId × Value → H} {W : World} {r : Go.Reach} {b0 : Nat}

set_option maxRecDepth 100000 in
/-- A slice of bytes that came in. -/
theorem in_bytes {v : Value} {d : DataW H} {p : List MemPlace} (hv : Value.okWide Ybaf.prog W r b0 23 v) (h : DataW.Trod enc Ybaf.prog W 0 (fun _ => true) true 23 v d p) :
    ∃ (n : Nat) (z : Nat → Nat), Row AnyB W v n 1 (flat n fun i => [.int .u8 (z i : Nat)]) ∧ ∀ i, z i < 256 := by
  obtain ⟨a0, len0, cap0, rfl⟩ := okWide_slice Ybaf.underlying23 hv
  obtain ⟨fuel, hf⟩ := h
  rcases open_ints Ybaf.underlying23 Ybaf.underlying5 cells5 hf with ⟨hcs, _⟩ | ⟨x, l, c, zs, hcs, _, hl, hm, hz, _, hcell, hwz⟩
  · simp [Value.cells] at hcs
    obtain ⟨rfl, rfl, rfl⟩ := hcs
    exact ⟨0, fun _ => 0, row_nil AnyB W 1, fun _ => Nat.zero_lt_succ 255⟩
  · simp [Value.cells] at hcs
    obtain ⟨rfl, rfl, rfl⟩ := hcs
    simp only [if_true] at hz
    have hb : ∀ i, i < len0 → 0 ≤ zs.getD i 0 ∧ zs.getD i 0 ≤ 255 := fun i hi => by
      have hi' : i < zs.length := by omega
      refine bounds_u8 (hwz _ ?_)
      simp [List.getD, List.getElem?_eq_getElem hi']
    refine ⟨len0, fun i => (zs.getD i 0).toNat % 256, row_flat (by decide) hl _ (fun _ _ => rfl) (fun i hi j u hj => ?_), fun i => Nat.mod_lt _ (by decide)⟩
    cases j with
    | zero =>
      have e : u = .int .u8 (((zs.getD i 0).toNat % 256 : Nat) : Int) := by simpa using hj.symm
      rw [Nat.mul_one, Nat.add_zero, hcell i (by omega), e]
      have := hb i hi
      congr 2
      omega
    | succ j => simp at hj

set_option maxRecDepth 100000 in
/-- A slice of slices of bytes that came in. -/
theorem in_rows {v : Value} {d : DataW H} {p : List MemPlace} (hv : Value.okWide Ybaf.prog W r b0 24 v) (h : DataW.Trod enc Ybaf.prog W 0 (fun _ => true) true 24 v d p) :
    ∃ (n : Nat) (pv : Nat → Value) (ln : Nat → Nat) (z : Nat → Nat → Nat), Row AnyB W v n 1 (flat n fun q => [pv q]) ∧ (∀ q, q < n → Row AnyB W (pv q) (ln q) 1 (flat (ln q) fun j => [.int .u8 (z q j : Nat)])) ∧ ∀ q j, z q j < 256 := by
  obtain ⟨a0, len0, cap0, rfl⟩ := okWide_slice Ybaf.underlying24 hv
  obtain ⟨fuel, hf⟩ := h
  rcases open_int_rows Ybaf.underlying24 Ybaf.underlying23 Ybaf.underlying5 cells23 cells5 hf with ⟨hcs, _⟩ | ⟨x, l, c, A, L, C, Z, hcs, _, hl, hm, _, hr⟩
  · simp [Value.cells] at hcs
    obtain ⟨rfl, rfl, rfl⟩ := hcs
    exact ⟨0, fun _ => .nilIface, fun _ => 0, fun _ _ => 0, row_nil AnyB W 1, fun q hq => (Nat.not_lt_zero q hq).elim, fun _ _ => Nat.zero_lt_succ 255⟩
  · simp [Value.cells] at hcs
    obtain ⟨rfl, rfl, rfl⟩ := hcs
    refine ⟨len0, fun q => .slice (A q) (L q) (C q), L, fun q j => ((Z q).getD j 0).toNat % 256, row_flat (by decide) hl _ (fun _ _ => rfl) (fun i hi j u hj => ?_), fun q hq => ?_, fun q j => Nat.mod_lt _ (by decide)⟩
    · cases j with
      | zero =>
        have e : u = .slice (A i) (L i) (C i) := by simpa using hj.symm
        rw [Nat.mul_one, Nat.add_zero, (hr i (by omega)).1, e]
      | succ j => simp at hj
    · obtain ⟨_, h1, h2, h3, h4, h5, h6⟩ := hr q (by omega)
      show Row AnyB W (.slice (A q) (L q) (C q)) (L q) 1 _
      cases hA : A q with
      | none =>
        have h7 := h5 hA
        have h8 : L q = 0 := by omega
        rw [h8]
        exact ⟨rfl, none, C q, rfl, by omega, .inl rfl⟩
      | some a' =>
        refine row_flat (by decide) h1 _ (fun _ _ => rfl) (fun i hi j u hj => ?_)
        cases j with
        | zero =>
          have e : u = .int .u8 ((((Z q).getD i 0).toNat % 256 : Nat) : Int) := by simpa using hj.symm
          rw [Nat.mul_one, Nat.add_zero, (h6 a' hA).2 i (by omega), e]
          have hi' : i < (Z q).length := by omega
          have := bounds_u8 (h4 ((Z q).getD i 0) (by simp [List.getD, List.getElem?_eq_getElem hi']))
          congr 2
          omega
        | succ j => simp at hj

theorem list7 {α : Type} {m : List α} (h : m.length = 7) : ∃ a b c d e f g, m = [a, b, c, d, e, f, g] := by
  match m, h with
  | [a, b, c, d, e, f, g], _ => exact ⟨a, b, c, d, e, f, g, rfl⟩

theorem byte_of {x : Int} (h : (Lit.int .u8 x).wf = true) : ∃ n : Nat, x = (n : Int) ∧ n < 256 := by
  have := bounds_u8 h
  exact ⟨x.toNat, by omega, by omega⟩

set_option maxRecDepth 100000 in
/-- A slice of relations' numbers that came in. -/
theorem in_rels {v : Value} {d : DataW H} {p : List MemPlace} (hv : Value.okWide Ybaf.prog W r b0 22 v) (h : DataW.Trod enc Ybaf.prog W 0 (fun _ => true) true 22 v d p) :
    ∃ (n : Nat) (zz : Nat → Nat → Nat), Row AnyB W v n 7 (flat n fun k => zCells (zz k)) ∧ ∀ k j, zz k j < 256 := by
  obtain ⟨a0, len0, cap0, rfl⟩ := okWide_slice Ybaf.underlying22 hv
  obtain ⟨fuel, hf⟩ := h
  rcases open_slice Ybaf.underlying22 hf with ⟨hcs, _⟩ | ⟨x, l, c, m, n, D, Pl, hcs, _, hl, hm, hmm, _, hx⟩
  · simp [Value.cells] at hcs
    obtain ⟨rfl, rfl, rfl⟩ := hcs
    exact ⟨0, fun _ _ => 0, row_nil AnyB W 7, fun _ _ => Nat.zero_lt_succ 255⟩
  · simp [Value.cells] at hcs
    obtain ⟨rfl, rfl, rfl⟩ := hcs
    simp only [if_true] at hmm
    rw [cells32] at hx
    have each : ∀ i, ∃ g : Nat → Nat, (∀ j, g j < 256) ∧ (i < len0 → ∀ j u, (zCells g)[j]? = some u → W.cell? (x.add (i * 7 + j)) = some u) := by
      intro i
      by_cases hi : i < len0
      · obtain ⟨cs', h1, h2⟩ := hx i (by omega)
        obtain ⟨_, hlen, hcell⟩ := World.cells?_some h1
        obtain ⟨xs, n', -, hxx, -, hxl, hall⟩ := DataW.trod_struct Ybaf.underlying32 h2
        obtain ⟨u0, u1, u2, u3, u4, u5, u6, rfl⟩ := list7 hlen
        obtain ⟨y0, y1, y2, y3, y4, y5, y6, rfl⟩ := list7 hxl
        have g0 := hall 0 _ rfl
        have g1 := hall 1 _ rfl
        have g2 := hall 2 _ rfl
        have g3 := hall 3 _ rfl
        have g4 := hall 4 _ rfl
        have g5 := hall 5 _ rfl
        have g6 := hall 6 _ rfl
        obtain ⟨n0, e0, q0, w0⟩ := DataW.trod_int Ybaf.underlying5 g0
        obtain ⟨n1, e1, q1, w1⟩ := DataW.trod_int Ybaf.underlying5 g1
        obtain ⟨n2, e2, q2, w2⟩ := DataW.trod_int Ybaf.underlying5 g2
        obtain ⟨n3, e3, q3, w3⟩ := DataW.trod_int Ybaf.underlying5 g3
        obtain ⟨n4, e4, q4, w4⟩ := DataW.trod_int Ybaf.underlying5 g4
        obtain ⟨n5, e5, q5, w5⟩ := DataW.trod_int Ybaf.underlying5 g5
        obtain ⟨n6, e6, q6, w6⟩ := DataW.trod_int Ybaf.underlying5 g6
        simp [cells5] at e0 e1 e2 e3 e4 e5 e6
        subst e0 e1 e2 e3 e4 e5 e6
        obtain ⟨m0, rfl, l0⟩ := byte_of w0
        obtain ⟨m1, rfl, l1⟩ := byte_of w1
        obtain ⟨m2, rfl, l2⟩ := byte_of w2
        obtain ⟨m3, rfl, l3⟩ := byte_of w3
        obtain ⟨m4, rfl, l4⟩ := byte_of w4
        obtain ⟨m5, rfl, l5⟩ := byte_of w5
        obtain ⟨m6, rfl, l6⟩ := byte_of w6
        refine ⟨fun j => [m0, m1, m2, m3, m4, m5, m6].getD j 0, fun j => ?_, fun _ j u hj => ?_⟩
        · match j with
          | 0 => exact l0
          | 1 => exact l1
          | 2 => exact l2
          | 3 => exact l3
          | 4 => exact l4
          | 5 => exact l5
          | 6 => exact l6
          | j + 7 => simp [List.getD]
        · have hj7 : j < 7 := by
            have := (List.getElem?_eq_some_iff.1 hj).1
            simpa [zCells] using this
          have hc := hcell j hj7
          rw [add_add] at hc
          rw [hc]
          exact hj
      · exact ⟨fun _ => 0, fun _ => Nat.zero_lt_succ 255, fun h => (hi h).elim⟩
    obtain ⟨zz, hzz⟩ := Classical.skolem.1 each
    exact ⟨len0, zz, row_flat (by decide) hl _ (fun _ _ => rfl) (fun i hi j u hj => (hzz i).2 hi j u hj), fun k j => (hzz k).1 j⟩

end
end Go.Proofs.YbulkcfwsFmt
