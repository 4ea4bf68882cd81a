import Derived.Test.YbulkcfvqDoorInv
import Derived.Deep.CutBlock
namespace Go.Proofs.YbulkcfvqDoor
open Go.RowKit
attribute [local go_sem ↓] Go.wp_at_zero Go.wp_at_succ neq_base

/-- The cells of the box, and what holds. -/
theorem toS {w0 : World} {v0 : Value} {base Y : Nat} {e r p o d l : ByteArray} {w : World} {v : Value} {xs : List Py} (h : Inv w0 v0 base Y ⟨e, r, p, o, d, l⟩ w v xs) :
    w.cell? ⟨Y, 0, none⟩ = some (.string e) ∧ w.cell? ⟨Y, 1, none⟩ = some (.string r) ∧ w.cell? ⟨Y, 2, none⟩ = some (.string p) ∧ w.cell? ⟨Y, 3, none⟩ = some (.string o) ∧ w.cell? ⟨Y, 4, none⟩ = some (.string d) ∧ w.cell? ⟨Y, 5, none⟩ = some (.string l) ∧
    Inv w0 v0 base Y ⟨e, r, p, o, d, l⟩ w v xs := ⟨h.box.1, h.box.2.1, h.box.2.2.1, h.box.2.2.2.1, h.box.2.2.2.2.1, h.box.2.2.2.2.2, h⟩

theorem toC {w0 : World} {v0 : Value} {base Y : Nat} {e r p o d l : ByteArray} {w : World} {v : Value} {xs : List Py} (h : Inv w0 v0 base Y ⟨e, r, p, o, d, l⟩ w v xs) :
    w.cell? ⟨Y, 0, none⟩ = some (.string e) ∧ w.cell? ⟨Y, 1, none⟩ = some (.string r) ∧ w.cell? ⟨Y, 2, none⟩ = some (.string p) ∧ w.cell? ⟨Y, 3, none⟩ = some (.string o) ∧ w.cell? ⟨Y, 4, none⟩ = some (.string d) ∧ w.cell? ⟨Y, 5, none⟩ = some (.string l) := h.box

/-- Not the empty string? -/
def neB (s : ByteArray) : Bool := !s.toList.isEmpty
/-- The three parts of what is appended. -/
def segA (y : Py) : List Py := bif anyB y.p y.o y.d y.l then [y] else []
def segB (y : Py) (di oi : ByteArray) : List Py :=
  bif neB y.d then { y with d := di } :: (bif neB y.o then [{ y with d := { data := #[] } }] else [])
  else bif neB y.o then [{ y with o := oi, d := { data := #[48] } }, { y with o := oi }] else []
def segC (y : Py) (n1 n2 : ByteArray) : List Py :=
  bif neB y.p then [⟨y.e, y.r, y.p, { data := #[] }, { data := #[] }, { data := #[] }⟩, ⟨y.e, y.r, y.p, { data := #[48] }, { data := #[48] }, { data := #[] }⟩, ⟨y.e, y.r, y.p, { data := #[48] }, { data := #[] }, { data := #[] }⟩,
    ⟨y.e, y.r, n1, { data := #[] }, { data := #[48] }, { data := #[] }⟩, ⟨y.e, y.r, n2, { data := #[] }, { data := #[] }, { data := #[] }⟩] else []

theorem segA_len (y : Py) : (segA y).length ≤ 1 := by unfold segA; cases anyB y.p y.o y.d y.l <;> simp
theorem segB_len (y : Py) (a b : ByteArray) : (segB y a b).length ≤ 2 := by unfold segB; cases neB y.d <;> cases neB y.o <;> simp
theorem segC_len (y : Py) (a b : ByteArray) : (segC y a b).length ≤ 5 := by unfold segC; cases neB y.p <;> simp

theorem news1 (w : World) (a b c d e f : ByteArray) : ∀ j u, (cellsP [⟨a, b, c, d, e, f⟩])[j]? = some u → (w.alloc (.cells #[.string a, .string b, .string c, .string d, .string e, .string f] 27)).cell? ((⟨w.heap.size, 0, none⟩ : Addr).add j) = some u :=
  World.news_of_block (cs := #[.string a, .string b, .string c, .string d, .string e, .string f]) (t := 27) (fr := (0, 0)) (heap_alloc_new w _)

theorem news2 (w : World) (a b c d e f a' b' c' d' e' f' : ByteArray) : ∀ j u, (cellsP [⟨a, b, c, d, e, f⟩, ⟨a', b', c', d', e', f'⟩])[j]? = some u → (w.alloc (.cells #[.string a, .string b, .string c, .string d, .string e, .string f, .string a', .string b', .string c', .string d', .string e', .string f'] 27)).cell? ((⟨w.heap.size, 0, none⟩ : Addr).add j) = some u :=
  World.news_of_block (cs := #[.string a, .string b, .string c, .string d, .string e, .string f, .string a', .string b', .string c', .string d', .string e', .string f']) (t := 27) (fr := (0, 0)) (heap_alloc_new w _)

theorem cellsP_one (ys : List Py) : ∀ u ∈ cellsP ys, u.oneCell' = true := by
  intro u hu
  unfold cellsP at hu
  obtain ⟨y, -, hy⟩ := List.mem_flatMap.1 hu
  simp only [Py.cells, List.mem_cons, List.not_mem_nil, or_false] at hy
  rcases hy with rfl | rfl | rfl | rfl | rfl | rfl <;> rfl

/-- What holds behind the switch. -/
def Rel2 (w : World) (v : Value) (base : Nat) (e r p o d l : ByteArray) (xs1 : List Py) (v1 : Value) (wr : World) : Prop :=
  ∃ di oi, (neB d = true → IncTo d di) ∧ (neB d = false → neB o = true → IncTo o oi) ∧ Inv w v base w.heap.size ⟨e, r, p, o, d, l⟩ wr v1 (xs1 ++ segB ⟨e, r, p, o, d, l⟩ di oi)

section
variable {w : World} {v : Value} {base : Nat} {e r p o d l : ByteArray} {xs1 : List Py} {v1 : Value} {wr : World}
theorem rel2_00 (hd : neB d = false) (ho : neB o = false) (h : Inv w v base w.heap.size ⟨e, r, p, o, d, l⟩ wr v1 xs1) : Rel2 w v base e r p o d l xs1 v1 wr := by
  refine ⟨ByteArray.empty, ByteArray.empty, fun h => ?_, fun _ h => ?_, ?_⟩
  · rw [hd] at h; cases h
  · rw [ho] at h; cases h
  · have : segB ⟨e, r, p, o, d, l⟩ ByteArray.empty ByteArray.empty = [] := by simp [segB, hd, ho]
    rw [this, List.append_nil]
    exact h
theorem rel2_d0 {di : ByteArray} (hd : neB d = true) (ho : neB o = false) (hi : IncTo d di) (h : Inv w v base w.heap.size ⟨e, r, p, o, d, l⟩ wr v1 (xs1 ++ [⟨e, r, p, o, di, l⟩])) : Rel2 w v base e r p o d l xs1 v1 wr := by
  refine ⟨di, ByteArray.empty, fun _ => hi, fun _ h => ?_, ?_⟩
  · rw [ho] at h; cases h
  · have : segB ⟨e, r, p, o, d, l⟩ di ByteArray.empty = [⟨e, r, p, o, di, l⟩] := by simp [segB, hd, ho]
    rw [this]
    exact h
theorem rel2_d1 {di : ByteArray} (hd : neB d = true) (ho : neB o = true) (hi : IncTo d di) (h : Inv w v base w.heap.size ⟨e, r, p, o, d, l⟩ wr v1 (xs1 ++ [⟨e, r, p, o, di, l⟩] ++ [⟨e, r, p, o, { data := #[] }, l⟩])) : Rel2 w v base e r p o d l xs1 v1 wr := by
  refine ⟨di, ByteArray.empty, fun _ => hi, fun h => ?_, ?_⟩
  · rw [hd] at h; cases h
  have : segB ⟨e, r, p, o, d, l⟩ di ByteArray.empty = [⟨e, r, p, o, di, l⟩] ++ [⟨e, r, p, o, { data := #[] }, l⟩] := by simp [segB, hd, ho]
  rw [this, ← List.append_assoc]
  exact h
theorem rel2_0o {oi : ByteArray} (hd : neB d = false) (ho : neB o = true) (hj : IncTo o oi) (h : Inv w v base w.heap.size ⟨e, r, p, o, d, l⟩ wr v1 (xs1 ++ [⟨e, r, p, oi, { data := #[48] }, l⟩, ⟨e, r, p, oi, d, l⟩])) : Rel2 w v base e r p o d l xs1 v1 wr := by
  refine ⟨ByteArray.empty, oi, fun h => ?_, fun _ _ => hj, ?_⟩
  · rw [hd] at h; cases h
  · have : segB ⟨e, r, p, o, d, l⟩ ByteArray.empty oi = [⟨e, r, p, oi, { data := #[48] }, l⟩, ⟨e, r, p, oi, d, l⟩] := by simp [segB, hd, ho]
    rw [this]
    exact h
end

/-- Behind the making of 'base' and 'tag': two boxes more. -/
structure Inv2 (w0 : World) (v0 : Value) (base Y : Nat) (y : Py) (A B : Nat) (ya yb : Py) (w : World) (v : Value) (xs : List Py) : Prop where
  inv : Inv w0 v0 base Y y w v xs
  ba : Box w A ya
  bb : Box w B yb
  na : some A ≠ v.ownBlock
  nb : some B ≠ v.ownBlock

section
variable {w0 : World} {v0 : Value} {base Y : Nat} {y : Py} {A B : Nat} {ya yb : Py} {w w' : World} {v v' : Value} {xs ys : List Py}
theorem Inv2.below (hb : Below w.heap.size w w') (h : Inv2 w0 v0 base Y y A B ya yb w v xs) : Inv2 w0 v0 base Y y A B ya yb w' v xs :=
  ⟨h.inv.below hb, h.ba.below hb h.ba.lt, h.bb.below hb h.bb.lt, h.na, h.nb⟩
theorem Inv2.drew (h : Inv2 w0 v0 base Y y A B ya yb w v xs) : Inv2 w0 v0 base Y y A B ya yb w.drew v xs := h.below ((Below.refl _ _).drew)
theorem Inv2.alloc (h : Inv2 w0 v0 base Y y A B ya yb w v xs) (o : Obj) : Inv2 w0 v0 base Y y A B ya yb (w.alloc o) v xs := h.below ((Below.refl _ _).alloc (Nat.le_refl _) o)
theorem Inv2.append {n : Nat} (h : Inv2 w0 v0 base Y y A B ya yb w v xs) (hn : n = (xs ++ ys).length) (hown : w'.ownsRow base 27 6 v' n (cellsP xs ++ cellsP ys)) (hg : w.grownBy w' v.ownBlock) (hat : v'.ownBlock = v.ownBlock ∨ v'.ownBlock = some w.heap.size) : Inv2 w0 v0 base Y y A B ya yb w' v' (xs ++ ys) := by
  refine ⟨h.inv.append hn hown hg hat, h.ba.grown hg h.na, h.bb.grown hg h.nb, ?_, ?_⟩
  · rcases hat with hat | hat
    · rw [hat]; exact h.na
    · rw [hat]
      have := h.ba.lt
      intro e
      cases e
      omega
  · rcases hat with hat | hat
    · rw [hat]; exact h.nb
    · rw [hat]
      have := h.bb.lt
      intro e
      cases e
      omega
theorem toC2 {e r p o d l : ByteArray} (h : Inv2 w0 v0 base Y ⟨e, r, p, o, d, l⟩ A B ya yb w v xs) :
    w.cell? ⟨Y, 2, none⟩ = some (.string p) ∧
    w.cell? ⟨A, 0, none⟩ = some (.string ya.e) ∧ w.cell? ⟨A, 1, none⟩ = some (.string ya.r) ∧ w.cell? ⟨A, 2, none⟩ = some (.string ya.p) ∧ w.cell? ⟨A, 3, none⟩ = some (.string ya.o) ∧ w.cell? ⟨A, 4, none⟩ = some (.string ya.d) ∧ w.cell? ⟨A, 5, none⟩ = some (.string ya.l) ∧
    w.cell? ⟨B, 0, none⟩ = some (.string yb.e) ∧ w.cell? ⟨B, 1, none⟩ = some (.string yb.r) ∧ w.cell? ⟨B, 2, none⟩ = some (.string yb.p) ∧ w.cell? ⟨B, 3, none⟩ = some (.string yb.o) ∧ w.cell? ⟨B, 4, none⟩ = some (.string yb.d) ∧ w.cell? ⟨B, 5, none⟩ = some (.string yb.l) := by
  obtain ⟨a0, a1, a2, a3, a4, a5⟩ := h.ba
  obtain ⟨b0, b1, b2, b3, b4, b5⟩ := h.bb
  exact ⟨h.inv.box.2.2.1, a0, a1, a2, a3, a4, a5, b0, b1, b2, b3, b4, b5⟩
end

theorem news5 (w : World) (a b c d e f a' b' c' d' e' f' a2 b2 c2 d2 e2 f2 a3 b3 c3 d3 e3 f3 a4 b4 c4 d4 e4 f4 : ByteArray) : ∀ j u, (cellsP [⟨a, b, c, d, e, f⟩, ⟨a', b', c', d', e', f'⟩, ⟨a2, b2, c2, d2, e2, f2⟩, ⟨a3, b3, c3, d3, e3, f3⟩, ⟨a4, b4, c4, d4, e4, f4⟩])[j]? = some u → (w.alloc (.cells #[.string a, .string b, .string c, .string d, .string e, .string f, .string a', .string b', .string c', .string d', .string e', .string f', .string a2, .string b2, .string c2, .string d2, .string e2, .string f2, .string a3, .string b3, .string c3, .string d3, .string e3, .string f3, .string a4, .string b4, .string c4, .string d4, .string e4, .string f4] 27)).cell? ((⟨w.heap.size, 0, none⟩ : Addr).add j) = some u :=
  World.news_of_block (cs := #[.string a, .string b, .string c, .string d, .string e, .string f, .string a', .string b', .string c', .string d', .string e', .string f', .string a2, .string b2, .string c2, .string d2, .string e2, .string f2, .string a3, .string b3, .string c3, .string d3, .string e3, .string f3, .string a4, .string b4, .string c4, .string d4, .string e4, .string f4]) (t := 27) (fr := (0, 0)) (heap_alloc_new w _)

/-- What appendNearVersion does. -/
def NearTo (w : World) (v : Value) (base : Nat) (y : Py) (ps : List Py) (v' : Value) (w' : World) : Prop :=
  ∃ di oi n1 n2, (neB y.d = true → IncTo y.d di) ∧ (neB y.d = false → neB y.o = true → IncTo y.o oi) ∧ (neB y.p = true → NextTo y.p n1 ∧ NextTo y.p n2) ∧
    w'.ownsRow base 27 6 v' (ps ++ segA y ++ segB y di oi ++ segC y n1 n2).length (cellsP (ps ++ segA y ++ segB y di oi ++ segC y n1 n2)) ∧ w.grownBy w' v.ownBlock ∧ (v'.ownBlock = v.ownBlock ∨ ∃ g, v'.ownBlock = some g ∧ w.heap.size ≤ g)

theorem nearTo_of {w : World} {v : Value} {base : Nat} {e r p o d l : ByteArray} {ps xs1 : List Py} {v' : Value} {w' : World} {di oi n1 n2 : ByteArray} (h1 : neB d = true → IncTo d di) (h2 : neB d = false → neB o = true → IncTo o oi) (h3 : neB p = true → NextTo p n1 ∧ NextTo p n2)
    (hx : ps ++ segA ⟨e, r, p, o, d, l⟩ = xs1) (h : Inv w v base w.heap.size ⟨e, r, p, o, d, l⟩ w' v' (xs1 ++ segB ⟨e, r, p, o, d, l⟩ di oi ++ segC ⟨e, r, p, o, d, l⟩ n1 n2)) : NearTo w v base ⟨e, r, p, o, d, l⟩ ps v' w' := by
  subst hx
  refine ⟨di, oi, n1, n2, h1, h2, h3, h.own, h.gr, ?_⟩
  rcases h.free with hf | ⟨g, hg, hlt⟩
  · exact .inl hf
  · exact .inr ⟨g, hg, by omega⟩

theorem lies {w : World} {o : Obj} {v : Value} {g n cap : Nat} (h : v.ownBlock = some g ∨ g = w.heap.size + 1) : (Value.slice (some ⟨g, 0, none⟩) n cap).ownBlock = v.ownBlock ∨ (Value.slice (some ⟨g, 0, none⟩) n cap).ownBlock = some (w.alloc o).heap.size := by
  rcases h with h | h
  · exact .inl h.symm
  · right
    rw [h]
    simp [Value.ownBlock]

set_option maxHeartbeats 4000000 in
set_option maxRecDepth 100000 in
theorem near_any (v : Value) (base : Nat) (ps : List Py) (e r p o d l : ByteArray) (w : World) (hown : w.ownsRow base 27 6 v ps.length (cellsP ps)) (hbase : base ≤ w.heap.size) (hps : ps.length ≤ 1000)
    (hp : p.size ≤ 4096) (ho : o.size ≤ 4096) (hd : d.size ≤ 4096) :
    Calls Ybad.prog 5 #[v, .agg #[.string e, .string r, .string p, .string o, .string d, .string l]] w fun en w' => ∃ v', en = .returned v' ∧ NearTo w v base ⟨e, r, p, o, d, l⟩ ps v' w' := by
  obtain ⟨i0, hi, hz0, hz1, hz2⟩ := info_parts info25
  have hi0 : Inv w v base w.heap.size ⟨e, r, p, o, d, l⟩ (w.alloc (.cells #[.string e, .string r, .string p, .string o, .string d, .string l] 27)) v ps :=
    ⟨hown.alloc _, World.grownBy_alloc _ _ _, ⟨by simp, by simp, by simp, by simp, by simp, by simp⟩, .inl rfl, Nat.le_refl _, fun g hg => (hown.lt g hg).2, hbase⟩
  go_enter Ybad.func5, Ybad.ntmps5
  go_wp2_with fail
  go_region_held3 (fun w' => w'.cell? ⟨w.heap.size, 0, none⟩ = some (.string e) ∧ w'.cell? ⟨w.heap.size, 1, none⟩ = some (.string r) ∧ w'.cell? ⟨w.heap.size, 2, none⟩ = some (.string p) ∧ w'.cell? ⟨w.heap.size, 3, none⟩ = some (.string o) ∧ w'.cell? ⟨w.heap.size, 4, none⟩ = some (.string d) ∧ w'.cell? ⟨w.heap.size, 5, none⟩ = some (.string l) ∧ Inv w v base w.heap.size ⟨e, r, p, o, d, l⟩ w' v ps)
    ((go_split_ands; first | exact toS (Inv.below hb (by assumption)) | exact toS (Inv.drew (by assumption)) | exact toS (Inv.alloc (by assumption) _)))
    (first | (go_at_call 8; refine (base_bel _ _ _ _ _ _ _).mono ?_; rintro en w' ⟨rfl, hb⟩))
  go_split_ands
  have HI : Hid (Inv w v base w.heap.size ⟨e, r, p, o, d, l⟩ w' v ps) := by assumption
  clear hi0 hb
  go_upto_if 11 with fail
  go_cut [0] (fun v1 wr => Inv w v base w.heap.size ⟨e, r, p, o, d, l⟩ wr v1 (ps ++ segA ⟨e, r, p, o, d, l⟩))
  case first =>
    cases hA : anyB p o d l
    · go_wp2_with fail
      go_meet
      case rel =>
        have : ps ++ segA ⟨e, r, p, o, d, l⟩ = ps := by simp [segA, hA]
        rw [this]
        exact HI.out
    · go_wp2_with (at_builtin; refine wpList_append_own_at _ rfl _ _ 29 rfl base 27 i0 _ 6 96 Ybad.underlying29 hi hz0 hz1 hz2 rfl (by decide) _ ps.length (cellsP ps) rfl (HI.out.own.alloc _) ⟨w'.heap.size, 0, none⟩ 1 1 (cellsP [⟨e, r, p, o, d, l⟩]) rfl ?c0 (news1 _ _ _ _ _ _ _) (cellsP_one _) ?c3 ?c4 ?c5 ?_)
      case c0 => rfl
      case c3 => unfold maxLen; omega
      case c4 => omega
      case c5 => have := HI.out.size; simp; omega
      intro v' w1 hown' hgrow _ hat
      have hn : Inv w v base w.heap.size ⟨e, r, p, o, d, l⟩ w1 v' (ps ++ segA ⟨e, r, p, o, d, l⟩) := by
        have : segA ⟨e, r, p, o, d, l⟩ = [⟨e, r, p, o, d, l⟩] := by simp [segA, hA]
        rw [this]
        exact (HI.out.alloc _).append (by simp) hown' hgrow (by simpa using hat)
      have Hn : Hid (Inv w v base w.heap.size ⟨e, r, p, o, d, l⟩ w1 v' (ps ++ segA ⟨e, r, p, o, d, l⟩)) := hn
      clear hn hown' hgrow hat
      go_wp2_with fail
      go_meet
      case rel => exact Hn.out
  case rest =>
    have hxl := segA_len ⟨e, r, p, o, d, l⟩
    generalize hx1 : ps ++ segA ⟨e, r, p, o, d, l⟩ = xs1 at hcut
    have hlen1 : xs1.length ≤ 1001 := by rw [← hx1, List.length_append]; omega
    have Hx1 : Hid (ps ++ segA ⟨e, r, p, o, d, l⟩ = xs1) := hx1
    have Hcut : Hid (Inv w v base w.heap.size ⟨e, r, p, o, d, l⟩ wc u0 xs1) := hcut
    clear HI hx1
    obtain ⟨c0, c1, c2, c3, c4, c5, -⟩ := toS hcut
    clear hcut
    go_upto_block 0 with fail
    go_cut [0, 5] (fun v1 _ wr => Rel2 w v base e r p o d l xs1 v1 wr)
    case first =>
      cases hD : neB d
      · have hD' : (!d.toList.isEmpty) = false := hD
        have HD : Hid (neB d = false) := hD
        clear hD
        cases hO : neB o
        · have hO' : (!o.toList.isEmpty) = false := hO
          have HO : Hid (neB o = false) := hO
          clear hO
          go_wp2_with fail
          go_meet
          case rel => exact rel2_00 HD.out HO.out Hcut.out
        · have hO' : (!o.toList.isEmpty) = true := hO
          have HO : Hid (neB o = true) := hO
          clear hO
          go_wp2_with fail
          refine (inc_any _ _ ho).mono ?_
          rintro en w2 ⟨⟨oi, rfl, hoi⟩, hb⟩
          have hI0 := Hcut.out.below hb
          have Hoi : Hid (IncTo o oi) := hoi
          clear hb hoi
          obtain ⟨d0, d1, d2, d3, d4, d5⟩ := toC hI0
          go_wp2_with fail
          have hI := hI0.drew
          clear hI0
          go_region_held3 (fun w' => w'.cell? ⟨w.heap.size, 0, none⟩ = some (.string e) ∧ w'.cell? ⟨w.heap.size, 1, none⟩ = some (.string r) ∧ w'.cell? ⟨w.heap.size, 2, none⟩ = some (.string p) ∧ w'.cell? ⟨w.heap.size, 3, none⟩ = some (.string o) ∧ w'.cell? ⟨w.heap.size, 4, none⟩ = some (.string d) ∧ w'.cell? ⟨w.heap.size, 5, none⟩ = some (.string l))
            (first | exact toC hI | exact toC (hI.alloc _) | exact toC hn)
            (first
              | (go_at_call 11; refine (withPost_bel _ _ _ _ _ _ _ _).mono ?_; rintro en w' ⟨rfl, hb⟩; replace hI := hI.below hb)
              | (go_at_call 9; refine (withDev_bel _ _ _ _ _ _ _ _).mono ?_; rintro en w' ⟨rfl, hb⟩; replace hI := hI.below hb)
              | (refine step_append_lies _ (by rfl) _ _ _ (by rfl) base 27 i0 _ 6 96 Ybad.underlying29 hi hz0 hz1 hz2 rfl (by decide) u0 xs1.length (cellsP xs1) (by rfl) (hI.own.alloc _) ⟨w'.heap.size, 0, none⟩ 2 2 (cellsP [⟨e, r, p, oi, { data := #[48] }, l⟩, ⟨e, r, p, oi, d, l⟩]) (by rfl) (by rfl) (news2 _ _ _ _ _ _ _ _ _ _ _ _ _) (cellsP_one _) (by decide) (by unfold maxLen; omega) (by omega) (by have := hI.size; simp; omega) (w'.heap.size + 1) (by simp) ?_; intro g cap w1 hown1 hgrow hat hlt; have hn := (hI.alloc _).append (by simp) hown1 hgrow (lies hat)))
          have Hn : Hid (Inv w v base w.heap.size ⟨e, r, p, o, d, l⟩ w1 (.slice (some ⟨g, 0, none⟩) (xs1.length + 2) cap) (xs1 ++ [⟨e, r, p, oi, { data := #[48] }, l⟩, ⟨e, r, p, oi, d, l⟩])) := hn
          clear hI hown1 hgrow hat hlt hb hn
          go_wp2_with fail
          go_meet
          case rel => exact rel2_0o HD.out HO.out Hoi.out Hn.out
      · have hD' : (!d.toList.isEmpty) = true := hD
        have HD : Hid (neB d = true) := hD
        clear hD
        go_wp2_with fail
        have hI := Hcut.out.drew
        go_region_held3 (fun w' => w'.cell? ⟨w.heap.size, 0, none⟩ = some (.string e) ∧ w'.cell? ⟨w.heap.size, 1, none⟩ = some (.string r) ∧ w'.cell? ⟨w.heap.size, 2, none⟩ = some (.string p) ∧ w'.cell? ⟨w.heap.size, 3, none⟩ = some (.string o) ∧ w'.cell? ⟨w.heap.size, 4, none⟩ = some (.string d) ∧ w'.cell? ⟨w.heap.size, 5, none⟩ = some (.string l))
          (first | exact toC hI | exact toC (hI.alloc _) | exact toC hn)
          (first
            | (go_at_call 10; refine (inc_any _ _ hd).mono ?_; rintro en w' ⟨⟨di, rfl, hdi⟩, hb⟩; replace hI := hI.below hb)
            | (go_at_call 9; refine (withDev_bel _ _ _ _ _ _ _ _).mono ?_; rintro en w' ⟨rfl, hb⟩; replace hI := hI.below hb)
            | (refine step_append_lies _ (by rfl) _ _ _ (by rfl) base 27 i0 _ 6 96 Ybad.underlying29 hi hz0 hz1 hz2 rfl (by decide) u0 xs1.length (cellsP xs1) (by rfl) (hI.own.alloc _) ⟨w'.heap.size, 0, none⟩ 1 1 (cellsP [⟨e, r, p, o, di, l⟩]) (by rfl) (by rfl) (news1 _ _ _ _ _ _ _) (cellsP_one _) (by decide) (by unfold maxLen; omega) (by omega) (by have := hI.size; simp; omega) (w'.heap.size + 1) (by simp) ?_; intro g cap w1 hown1 hgrow hat hlt; have hn := (hI.alloc _).append (by simp) hown1 hgrow (lies hat)))
        have Hdi : Hid (IncTo d di) := hdi
        have Hn : Hid (Inv w v base w.heap.size ⟨e, r, p, o, d, l⟩ w1 (.slice (some ⟨g, 0, none⟩) (xs1.length + 1) cap) (xs1 ++ [⟨e, r, p, o, di, l⟩])) := hn
        clear hdi hI hown1 hgrow hat hlt hb
        obtain ⟨d0, d1, d2, d3, d4, d5⟩ := toC hn
        clear hn
        generalize hvv : Value.slice (some ⟨g, 0, none⟩) (xs1.length + 1) cap = vv at Hn ⊢
        clear hvv g cap
        cases hO : neB o
        · have hO' : (!o.toList.isEmpty) = false := hO
          have HO : Hid (neB o = false) := hO
          clear hO
          go_wp2_with fail
          go_meet
          case rel => exact rel2_d0 HD.out HO.out Hdi.out Hn.out
        · have hO' : (!o.toList.isEmpty) = true := hO
          have HO : Hid (neB o = true) := hO
          clear hO
          go_wp2_with fail
          refine (withDev_bel _ _ _ _ _ _ _ _).mono ?_
          rintro en w2 ⟨rfl, hb⟩
          generalize hx2 : xs1 ++ [(⟨e, r, p, o, di, l⟩ : Py)] = xs2 at Hn
          have hlen2 : xs2.length ≤ 1002 := by rw [← hx2, List.length_append]; simp; omega
          have Hx2 : Hid (xs1 ++ [(⟨e, r, p, o, di, l⟩ : Py)] = xs2) := hx2
          have hI2 := Hn.out.below hb
          clear hb hx2
          go_wp2_with (at_builtin; refine wpList_append_lies _ rfl _ _ 29 rfl base 27 i0 _ 6 96 Ybad.underlying29 hi hz0 hz1 hz2 rfl (by decide) vv xs2.length (cellsP xs2) (by rfl) (hI2.own.alloc _) ⟨w2.heap.size, 0, none⟩ 1 1 (cellsP [⟨e, r, p, o, { data := #[] }, l⟩]) rfl rfl (news1 _ _ _ _ _ _ _) (cellsP_one _) (by decide) ?c3 ?c4 ?c5 (w2.heap.size + 1) (by simp) ?_)
          case c3 => unfold maxLen; omega
          case c4 => omega
          case c5 => have := hI2.size; simp; omega
          intro g2 cap2 w3 hown3 hgrow3 hat3 hlt3
          have Hn3 : Hid (Inv w v base w.heap.size ⟨e, r, p, o, d, l⟩ w3 (.slice (some ⟨g2, 0, none⟩) (xs2.length + 1) cap2) (xs2 ++ [⟨e, r, p, o, { data := #[] }, l⟩])) := (hI2.alloc _).append (by simp) hown3 hgrow3 (lies hat3)
          clear hI2 hown3 hgrow3 hat3 hlt3
          go_wp2_with fail
          go_meet
          case rel => exact rel2_d1 HD.out HO.out Hdi.out (by rw [Hx2.out]; exact Hn3.out)
    case rest =>
      clear Hcut c0 c1 c2 c3 c4 c5
      obtain ⟨di, oi, hdi, hoi, hcut2⟩ := hcut
      have hxl2 := segB_len ⟨e, r, p, o, d, l⟩ di oi
      generalize hx2 : xs1 ++ segB ⟨e, r, p, o, d, l⟩ di oi = xs2 at hcut2
      have hlen2 : xs2.length ≤ 1003 := by rw [← hx2, List.length_append]; omega
      have Hx2 : Hid (xs1 ++ segB ⟨e, r, p, o, d, l⟩ di oi = xs2) := hx2
      have Hdi : Hid (neB d = true → IncTo d di) := hdi
      have Hoi : Hid (neB d = false → neB o = true → IncTo o oi) := hoi
      obtain ⟨c0, c1, c2, c3, c4, c5⟩ := toC hcut2
      have Hcut2 : Hid (Inv w v base w.heap.size ⟨e, r, p, o, d, l⟩ wc u0 xs2) := hcut2
      clear hx2 hdi hoi hcut2
      cases hP : neB p
      · have hP' : (!p.toList.isEmpty) = false := hP
        have HP : Hid (neB p = false) := hP
        clear hP
        go_wp2_with fail
        go_ret
        exact ⟨_, rfl, nearTo_of (n1 := ByteArray.empty) (n2 := ByteArray.empty) Hdi.out Hoi.out (fun h => by rw [HP.out] at h; cases h) Hx1.out (by
          rw [Hx2.out, show segC ⟨e, r, p, o, d, l⟩ ByteArray.empty ByteArray.empty = [] from by simp [segC, HP.out], List.append_nil]
          exact Hcut2.out)⟩
      · have hP' : (!p.toList.isEmpty) = true := hP
        have HP : Hid (neB p = true) := hP
        clear hP
        go_wp2_with fail
        refine (base_bel _ _ _ _ _ _ _).mono ?_
        rintro en w2 ⟨rfl, hb⟩
        have hI2 := Hcut2.out.below hb
        have hlt2 : w.heap.size < w2.heap.size := hI2.box.lt
        have hn2 : some w2.heap.size ≠ u0.ownBlock := by
          intro e
          have := (hI2.own.lt w2.heap.size e.symm).2
          omega
        obtain ⟨d0, d1, d2, d3, d4, d5⟩ := toC hI2
        have HI2 : Hid (Inv w v base w.heap.size ⟨e, r, p, o, d, l⟩ w2 u0 xs2) := hI2
        have Hn2 : Hid (some w2.heap.size ≠ u0.ownBlock) := hn2
        clear hb c0 c1 c2 c3 c4 c5 hI2 hn2
        go_wp2_with fail
        refine (withPre_bel _ _ _ _ _ _ _ _).mono ?_
        rintro en w3 ⟨rfl, hb⟩
        have hI3 := (HI2.out.alloc _).below hb
        have b6 : Box w3 w2.heap.size ⟨e, r, { data := #[] }, { data := #[] }, { data := #[] }, { data := #[] }⟩ := Box.below (w := w2.alloc (.cells #[.string e, .string r, .string { data := #[] }, .string { data := #[] }, .string { data := #[] }, .string { data := #[] }] 27)) ⟨by simp, by simp, by simp, by simp, by simp, by simp⟩ hb (by simp)
        have hlt3 : w2.heap.size < w3.heap.size := b6.lt
        have hJ : Inv2 w v base w.heap.size ⟨e, r, p, o, d, l⟩ w2.heap.size w3.heap.size ⟨e, r, { data := #[] }, { data := #[] }, { data := #[] }, { data := #[] }⟩ ⟨e, r, p, { data := #[] }, { data := #[] }, { data := #[] }⟩ (w3.alloc (.cells #[.string e, .string r, .string p, .string { data := #[] }, .string { data := #[] }, .string { data := #[] }] 27)) u0 xs2 :=
          ⟨hI3.alloc _, b6.below ((Below.refl _ _).alloc (Nat.le_refl _) _) b6.lt, ⟨by simp, by simp, by simp, by simp, by simp, by simp⟩, Hn2.out, fun e => by have := (hI3.own.lt w3.heap.size e.symm).2; omega⟩
        have HJ : Hid (Inv2 w v base w.heap.size ⟨e, r, p, o, d, l⟩ w2.heap.size w3.heap.size ⟨e, r, { data := #[] }, { data := #[] }, { data := #[] }, { data := #[] }⟩ ⟨e, r, p, { data := #[] }, { data := #[] }, { data := #[] }⟩ (w3.alloc (.cells #[.string e, .string r, .string p, .string { data := #[] }, .string { data := #[] }, .string { data := #[] }] 27)) u0 xs2) := hJ
        clear hJ hb hI3 b6 d0 d1 d2 d3 d4 d5 HI2 Hn2 Hcut2
        go_wp2_with fail
        have hI := HJ.out.drew
        have tok1 : True := trivial
        go_region_held3 (fun w' => w'.cell? ⟨w.heap.size, 2, none⟩ = some (.string p) ∧
            w'.cell? ⟨w2.heap.size, 0, none⟩ = some (.string e) ∧ w'.cell? ⟨w2.heap.size, 1, none⟩ = some (.string r) ∧ w'.cell? ⟨w2.heap.size, 2, none⟩ = some (.string { data := #[] }) ∧ w'.cell? ⟨w2.heap.size, 3, none⟩ = some (.string { data := #[] }) ∧ w'.cell? ⟨w2.heap.size, 4, none⟩ = some (.string { data := #[] }) ∧ w'.cell? ⟨w2.heap.size, 5, none⟩ = some (.string { data := #[] }) ∧
            w'.cell? ⟨w3.heap.size, 0, none⟩ = some (.string e) ∧ w'.cell? ⟨w3.heap.size, 1, none⟩ = some (.string r) ∧ w'.cell? ⟨w3.heap.size, 2, none⟩ = some (.string p) ∧ w'.cell? ⟨w3.heap.size, 3, none⟩ = some (.string { data := #[] }) ∧ w'.cell? ⟨w3.heap.size, 4, none⟩ = some (.string { data := #[] }) ∧ w'.cell? ⟨w3.heap.size, 5, none⟩ = some (.string { data := #[] }))
          (first | exact toC2 hI | exact toC2 (hI.alloc _) | exact toC2 hn)
          (first
            | (go_at_call 11; refine (withPost_bel _ _ _ _ _ _ _ _).mono ?_; rintro en w' ⟨rfl, hb⟩; replace hI := hI.below hb)
            | (go_at_call 9; refine (withDev_bel _ _ _ _ _ _ _ _).mono ?_; rintro en w' ⟨rfl, hb⟩; replace hI := hI.below hb)
            | (go_at_call 12; refine (withPre_bel _ _ _ _ _ _ _ _).mono ?_; rintro en w' ⟨rfl, hb⟩; replace hI := hI.below hb)
            | (go_at_call 13; have _t := tok1; refine (nextPre_any _ _ hp).mono ?_; rintro en w' ⟨⟨n1, rfl, hn1⟩, hb⟩; replace hI := hI.below hb; clear tok1)
            | (go_at_call 13; refine (nextPre_any _ _ hp).mono ?_; rintro en w' ⟨⟨n2, rfl, hn2⟩, hb⟩; replace hI := hI.below hb)
            | (refine step_append_lies _ (by rfl) _ _ _ (by rfl) base 27 i0 _ 6 96 Ybad.underlying29 hi hz0 hz1 hz2 rfl (by decide) u0 xs2.length (cellsP xs2) (by rfl) (hI.inv.own.alloc _) ⟨w'.heap.size, 0, none⟩ 5 5 (cellsP [⟨e, r, p, { data := #[] }, { data := #[] }, { data := #[] }⟩, ⟨e, r, p, { data := #[48] }, { data := #[48] }, { data := #[] }⟩, ⟨e, r, p, { data := #[48] }, { data := #[] }, { data := #[] }⟩, ⟨e, r, n1, { data := #[] }, { data := #[48] }, { data := #[] }⟩, ⟨e, r, n2, { data := #[] }, { data := #[] }, { data := #[] }⟩]) (by rfl) (by rfl) (news5 _ _ _ _ _ _ _ _ _ _ _ _ _ _ _ _ _ _ _ _ _ _ _ _ _ _ _ _ _ _ _) (cellsP_one _) (by decide) (by unfold maxLen; omega) (by omega) (by have := hI.inv.size; simp; omega) (w'.heap.size + 1) (by simp) ?_; intro g cap w1 hown1 hgrow hat hlt; have hn := (hI.alloc _).append (by simp) hown1 hgrow (lies hat)))
        have Hn : Hid (Inv w v base w.heap.size ⟨e, r, p, o, d, l⟩ w1 (.slice (some ⟨g, 0, none⟩) (xs2.length + 5) cap) (xs2 ++ segC ⟨e, r, p, o, d, l⟩ n1 n2)) := by
          have e1 : segC ⟨e, r, p, o, d, l⟩ n1 n2 = [⟨e, r, p, { data := #[] }, { data := #[] }, { data := #[] }⟩, ⟨e, r, p, { data := #[48] }, { data := #[48] }, { data := #[] }⟩, ⟨e, r, p, { data := #[48] }, { data := #[] }, { data := #[] }⟩, ⟨e, r, n1, { data := #[] }, { data := #[48] }, { data := #[] }⟩, ⟨e, r, n2, { data := #[] }, { data := #[] }, { data := #[] }⟩] := by simp [segC, HP.out]
          rw [e1]
          exact hn.inv
        have Hn1 : Hid (NextTo p n1) := hn1
        have Hn2 : Hid (NextTo p n2) := hn2
        clear hI hown1 hgrow hat hlt hb hn HJ hn1 hn2
        go_wp2_with fail
        go_ret
        exact ⟨_, rfl, nearTo_of (n1 := n1) (n2 := n2) Hdi.out Hoi.out (fun _ => ⟨Hn1.out, Hn2.out⟩) Hx1.out (by rw [Hx2.out]; exact Hn.out)⟩
end Go.Proofs.YbulkcfvqDoor
