import Derived.Test.YbulkcfwsFmtLawB
import Derived.Test.YbulkcfwsFmtLoop1
namespace Go.Proofs.YbulkcfwsFmt
open Go.RowKit

/-- The law's inputs. -/
structure LIn (w : World) (v0 v3 v4 v5 : Value) (n0 n3 n4 n5 : Nat) (zz : Nat → Nat → Nat) (zp zr : Nat → Nat) (pv : Nat → Value) (ln : Nat → Nat) (z : Nat → Nat → Nat) : Prop where
  v0 : Row AnyB w v0 n0 7 (flat n0 fun k => zCells (zz k))
  v3 : Row AnyB w v3 n3 1 (flat n3 fun i => [.int .u8 (zp i : Nat)])
  v4 : Row AnyB w v4 n4 1 (flat n4 fun q => [pv q])
  vq : ∀ q, q < n4 → Row AnyB w (pv q) (ln q) 1 (flat (ln q) fun j => [.int .u8 (z q j : Nat)])
  v5 : Row AnyB w v5 n5 1 (flat n5 fun i => [.int .u8 (zr i : Nat)])
  z0 : ∀ k j, zz k j < 256
  z3 : ∀ i, zp i < 256
  z4 : ∀ q j, z q j < 256
  z5 : ∀ i, zr i < 256

theorem dayOf_ne (i : Nat) : dayOf i ≠ 0 := by
  unfold dayOf
  split <;> decide

/-- The seven arrays are made. -/
def mk7 (W : World) (N : Nat) : World :=
  ((((((W.alloc (.cells (madeCells #[Value.int .i64 0] N) 3)).alloc (.cells (madeCells #[Value.int .i64 0] N) 3)).alloc (.cells (madeCells #[Value.int .i64 0] N) 3)).alloc (.cells (madeCells #[Value.int .i64 0] N) 3)).alloc (.cells (madeCells #[Value.int .i64 0] N) 3)).alloc (.cells (madeCells #[Value.bool false] N) 4)).alloc (.cells (madeCells #[Value.bool false] N) 4)

theorem mk7_la {w W : World} {rb b1 b3 b4 b5 : Nat} {v2 : Value} {F4 F5 : Nat → Value} (N : Nat) (d : Int) (h : RegS w.heap.size W rb b1 b3 b4 b5 v2 F4 F5 [] 0 [] []) (hb : Below w.heap.size w W) : LA w rb b1 b3 b4 b5 W.heap.size N v2 F4 F5 [] (arrV [] d) (mk7 W N) := by
  have b1' : ∀ (X : World) (o : Obj), Below X.heap.size X (X.alloc o) := fun X o => (Below.refl _ X).alloc (Nat.le_refl _) o
  have s1 : ∀ (X : World) (o : Obj), (X.alloc o).heap.size = X.heap.size + 1 := fun X o => by simp
  have hbm : Below W.heap.size W (mk7 W N) := by
    unfold mk7
    exact (((((((Below.refl _ W).alloc (Nat.le_refl _) _).alloc (by simp only [s1]; omega) _).alloc (by simp only [s1]; omega) _).alloc (by simp only [s1]; omega) _).alloc (by simp only [s1]; omega) _).alloc (by simp only [s1]; omega) _).alloc (by simp only [s1]; omega) _
  refine ⟨h.below hbm, fun j hj => ?_, fun j hj => h.freeNew (by omega), hb.trans (hbm.mono hb.size), hb.size⟩
  have hz : ∀ j k, j < 7 → arrV [] d j k = if j < 5 then .int .i64 0 else .bool false := fun j k hj => by
    rcases lt7 hj with rfl | rfl | rfl | rfl | rfl | rfl | rfl <;> simp [arrV, r0, ctlB]
  have r0' := World.rowIs_made W (.int .i64 0) N 3
  have r1 := World.rowIs_made (W.alloc (.cells (madeCells #[Value.int .i64 0] N) 3)) (.int .i64 0) N 3
  have r2 := World.rowIs_made ((W.alloc (.cells (madeCells #[Value.int .i64 0] N) 3)).alloc (.cells (madeCells #[Value.int .i64 0] N) 3)) (.int .i64 0) N 3
  have r3 := World.rowIs_made (((W.alloc (.cells (madeCells #[Value.int .i64 0] N) 3)).alloc (.cells (madeCells #[Value.int .i64 0] N) 3)).alloc (.cells (madeCells #[Value.int .i64 0] N) 3)) (.int .i64 0) N 3
  have r4 := World.rowIs_made ((((W.alloc (.cells (madeCells #[Value.int .i64 0] N) 3)).alloc (.cells (madeCells #[Value.int .i64 0] N) 3)).alloc (.cells (madeCells #[Value.int .i64 0] N) 3)).alloc (.cells (madeCells #[Value.int .i64 0] N) 3)) (.int .i64 0) N 3
  have r5 := World.rowIs_made (((((W.alloc (.cells (madeCells #[Value.int .i64 0] N) 3)).alloc (.cells (madeCells #[Value.int .i64 0] N) 3)).alloc (.cells (madeCells #[Value.int .i64 0] N) 3)).alloc (.cells (madeCells #[Value.int .i64 0] N) 3)).alloc (.cells (madeCells #[Value.int .i64 0] N) 3)) (.bool false) N 4
  have r6 := World.rowIs_made ((((((W.alloc (.cells (madeCells #[Value.int .i64 0] N) 3)).alloc (.cells (madeCells #[Value.int .i64 0] N) 3)).alloc (.cells (madeCells #[Value.int .i64 0] N) 3)).alloc (.cells (madeCells #[Value.int .i64 0] N) 3)).alloc (.cells (madeCells #[Value.int .i64 0] N) 3)).alloc (.cells (madeCells #[Value.bool false] N) 4)) (.bool false) N 4
  simp only [s1] at r1 r2 r3 r4 r5 r6
  rcases lt7 hj with rfl | rfl | rfl | rfl | rfl | rfl | rfl
  · exact ((((((r0'.alloc _).alloc _).alloc _).alloc _).alloc _).alloc _).congr fun k _ => (hz 0 k (by decide)).symm
  · exact (((((r1.alloc _).alloc _).alloc _).alloc _).alloc _).congr fun k _ => (hz 1 k (by decide)).symm
  · exact ((((r2.alloc _).alloc _).alloc _).alloc _).congr fun k _ => (hz 2 k (by decide)).symm
  · exact (((r3.alloc _).alloc _).alloc _).congr fun k _ => (hz 3 k (by decide)).symm
  · exact ((r4.alloc _).alloc _).congr fun k _ => (hz 4 k (by decide)).symm
  · exact (r5.alloc _).congr fun k _ => (hz 5 k (by decide)).symm
  · exact r6.congr fun k _ => (hz 6 k (by decide)).symm

set_option maxHeartbeats 20000000 in
set_option maxRecDepth 100000 in
theorem law_any (w : World) (v0 v3 v4 v5 : Value) (cp dy n0 n3 n4 n5 : Nat) (zz : Nat → Nat → Nat) (zp zr : Nat → Nat) (pv : Nat → Value) (ln : Nat → Nat) (z : Nat → Nat → Nat)
    (hcp : cp < 256) (hdy : dy < 256) (hL0 : LIn w v0 v3 v4 v5 n0 n3 n4 n5 zz zp zr pv ln z) :
    Calls Ybaf.prog 3 #[v0, .int .u8 (cp : Nat), .int .u8 (dy : Nat), v3, v4, v5] w fun en w' => en = Ending.returned (Value.bool true) ∧ Below w.heap.size w w' := by
  have HI : Hid (LIn w v0 v3 v4 v5 n0 n3 n4 n5 zz zp zr pv ln z) := hL0
  clear hL0
  obtain ⟨a0, c0, hv0⟩ := HI.out.v0.form
  obtain ⟨a3, c3, hv3⟩ := HI.out.v3.form
  obtain ⟨a4, c4, hv4⟩ := HI.out.v4.form
  obtain ⟨a5, c5, hv5⟩ := HI.out.v5.form
  subst hv0
  subst hv3
  subst hv4
  subst hv5
  go_enter Ybaf.func3, Ybaf.ntmps3
  by_cases h3 : n3 ≤ 1024
  · by_cases h5 : n5 ≤ 1024
    · obtain ⟨N, hN⟩ : ∃ N, min n0 32 = N := ⟨_, rfl⟩
      have hN32 : N ≤ 32 := by omega
      have hN0 : N ≤ n0 := by omega
      go_upto_if 74 with fail
      go_cut [13] from 73 to 74 (fun v wc => v = .int .i64 (N : Nat) ∧ wc = w)
      case first =>
        by_cases h32 : n0 ≤ 32
        · obtain rfl : N = n0 := by omega
          go_wp2_with fail
          go_meet
          case rel => exact ⟨rfl, rfl⟩
        · obtain rfl : N = 32 := by omega
          go_wp2_with fail
          go_meet
          case rel => exact ⟨rfl, rfl⟩
      case rest =>
        obtain ⟨rfl, rfl⟩ := hcut
        clear hN
        go_wp2_with fail
        refine (new_any wc).mono ?_
        rintro e w1 ⟨rfl, hR, hb1⟩
        obtain ⟨dd, hdd⟩ : ∃ dd, dy % 4 = dd := ⟨_, rfl⟩
        have hd4 : dd < 4 := by omega
        have edd : (dy : Int) % 4 = (dd : Int) := by omega
        clear hdd
        have HLA : Hid (LA wc (wc.heap.size + 4) wc.heap.size (wc.heap.size + 1) (wc.heap.size + 2) (wc.heap.size + 3) w1.heap.size N (.slice none (0 : Nat) 0) (fun _ => .slice none (0 : Nat) 0) (fun _ => .slice none (0 : Nat) 0) [] (arrV [] (dayOf dd)) (mk7 w1 N)) := mk7_la N (dayOf dd) hR hb1
        clear hR hb1
        have M1 : ∀ w, (Instr.makeSlice 27 (.int .i64 (N : Int)) (.int .i64 (N : Int))).run Ybaf.prog w = .ok (.slice (some ⟨w.heap.size, 0, none⟩) N N) (w.alloc (.cells (madeCells #[Value.int .i64 0] N) 3)) := fun w => run_make_row' 27 3 _ 8 Ybaf.underlying27 info3 rfl _ _ N (by omega) (by omega) w
        have M2 : ∀ w, (Instr.makeSlice 28 (.int .i64 (N : Int)) (.int .i64 (N : Int))).run Ybaf.prog w = .ok (.slice (some ⟨w.heap.size, 0, none⟩) N N) (w.alloc (.cells (madeCells #[Value.bool false] N) 4)) := fun w => run_make_row' 28 4 _ 1 Ybaf.underlying28 info4 rfl _ _ N (by omega) (by omega) w
        go_wp2_with fail
        refine (day_any dd hd4 _).mono ?_
        rintro e w2 ⟨rfl, hw2⟩
        have HL2 : Hid (∃ v2 F4 F5, LA wc (wc.heap.size + 4) wc.heap.size (wc.heap.size + 1) (wc.heap.size + 2) (wc.heap.size + 3) w1.heap.size N v2 F4 F5 [] (arrV [] (dayOf dd)) w2) := by
          rw [hw2]
          exact ⟨_, _, _, HLA.out⟩
        clear hw2 HLA M1 M2
        have hd0 : dayOf dd ≠ 0 := dayOf_ne dd
        have Hd0 : Hid (dayOf dd ≠ 0) := hd0
        clear hd0
        generalize dayOf dd = d at *
        generalize w1.heap.size = A at *
        go_upto_block 0 with fail
        refine loop1 wc w2 (.slice a0 n0 c0) (wc.heap.size + 4) wc.heap.size (wc.heap.size + 1) (wc.heap.size + 2) (wc.heap.size + 3) A N n0 zz d _ _ _ _ _ _ _ _ _ _ _ _ _ _ _ _ _ _ _ _ _ _ _ _ _ _ _ _ _ _ _ _ _ _ _ _ _ _ _ _ _ _ _ _ _ _ _ _ _ _ _ _ _ _ _ _ _ _ _ _ _ _ _ _ _ _ _ _ _ _ _ _ _ _ _ _ _ _ _ _ _ _ _ _ _ _ _ _ _ _ _ _ _ _ _ _ _ _ _ _ _ _ _ _ _ _ _ _ _ _ _ _ _ _ _ _ _ _ _ _ _ _ _ _ _ _ _ _ _ _ _ _ _ _ _ _ _ _ _ _ _ _ _ _ _ _ _ _ _ _ _ _ _ _ _ _ _ _ _ _ _ _ _ _ _ _ _ _ _ _ _ _ _ _ _ _ _ _ _ _ _ _ _ _ _ _ _ _ _ _ _ _ _ _ _ _ _ _ _ _ _ _ _ _ _ _ _ _ _ _ _ _ _ _ _ _ _ _ _ _ _ _ _ _ _ _ _ _ _ _ _ _ _ _ _ _ _ _ _ _ _ _ _ _ _ _ _ _ _ _ _ _ _ _ _ _ _ _ _ _ _ _ _ _ _ _ _ _ _ _ _ _ _ _ _ _ _ _ _ _ _ _ _ _ _ _ _ _ _ _ _ _ _ _ _ _ _ _ _ _ _ _ _ _ _ _ _ _ _ _ _ _ _ _ _ _ _ _ _ _ _ _ _ _ _ _ _ _ _ _ _ _ _ _ _ _ _ _ _ _ _ _ _ _ _ _ _ _ _ _ _ _ _ _ _ _ _ _ _ _ _ _ _ _ _ _ _ _ _ _ _ _ _ _ _ _ _ _ _ _ _ _ _ _ _ _ _ _ _ _ _ _ _ _ _ _ _ _ _ _ _ _ _ _ _ _ _ _ _ _ _ _ _ _ _ _ _ _ _ _ _ _ _ _ _ _ _ _ _ _ _ _ _ _ _ _ _ _ _ _ _ _ _ _ _ _ _ _ _ _ _ _ _ _ _ _ _ _ _ _ _ _ _ _ _ _ _ _ _ _ _ _ _ _ _ _ _ _ _ _ _ _ _ _ _ _ _ _ _ _ _ _ _ _ _ _ _ _ _ _ _ _ _ _ _ _ _ _ _ _ _ _ _ _ _ _ _ _ _ _ _ _ _ _ _ _ _ _ _ _ _ _ _ _ _ _ _ _ _ _ _ _ _ _ _ _ _ _ _ _ _ _ _ _ _ _ _ _ _ _ _ _ _ _ _ _ _ _ _ _ _ _ hN32 hN0 HI.out.z0 HI.out.v0 HL2 ?_
        intro x12 x23 x24 x25 x26 x27 x94 x95 x96 x97 x98 x99 x100 x101 x102 x103 x104 x105 x106 x107 x108 x109 x110 x111 x112 x113 x114 x115 x116 x117 x118 x119 x120 x121 x122 x123 x124 x125 x126 x127 x128 x129 x130 x131 x132 x133 x134 x135 x136 x137 x138 x139 x140 x141 x142 x143 x144 x145 x146 x147 x148 x149 x150 x151 x152 x153 x154 x155 x156 x157 x158 x159 x160 x161 x162 x163 x164 x165 x166 x167 x168 x169 x170 x171 x172 x173 x174 x175 x176 x177 x178 x179 x180 x181 x182 x183 x184 x185 x186 x187 x188 x189 x190 x191 x192 x193 x194 x195 x196 x197 x198 x199 x200 x201 x202 x203 x204 x205 x206 x207 x208 x209 x210 w3 hL3
        obtain ⟨v2, F4, F5, hL3⟩ := hL3
        have hlen : (relsAt zz N).length = N := relsAt_len zz N
        have hgood := relsAt_ok zz N
        generalize relsAt zz N = L at hL3 hlen hgood
        subst hlen
        have hLB : LBD wc w3 (wc.heap.size + 4) A n3 n4 n5 (.slice a3 n3 c3) (.slice a4 n4 c4) (.slice a5 n5 c5) zp zr pv ln z L d := ⟨hgood, hL3.reg.toReg hN32 hgood, hL3.arr, HI.out.v3, HI.out.v4, HI.out.vq, HI.out.v5, HI.out.z3, HI.out.z4, HI.out.z5, hL3.bel⟩
        have hK := ‹∀ (a : Act) (w : World), Code.wp Ybaf.prog _ _ a w → _›
        refine hK _ _ ?_
        exact partB wc w3 (wc.heap.size + 4) A cp n3 n4 n5 _ _ _ zp zr pv ln z L d _ _ _ _ _ _ _ _ _ _ _ _ _ _ _ _ _ _ _ _ _ _ _ _ _ _ _ _ _ _ _ _ _ _ _ _ _ _ _ _ _ _ _ _ _ _ _ _ _ _ _ _ _ _ _ _ _ _ _ _ _ _ _ _ _ _ _ _ _ _ _ _ _ _ _ _ _ _ _ _ _ _ _ _ _ _ _ _ _ _ _ _ _ _ _ _ _ _ _ _ _ _ _ _ _ _ _ _ _ _ _ _ _ _ _ _ _ _ _ _ _ _ _ _ _ _ _ _ _ _ _ _ _ _ _ _ _ _ _ _ _ _ _ _ _ _ _ _ _ _ _ _ _ _ _ _ _ _ _ _ _ _ _ _ _ _ _ _ _ _ _ _ _ _ _ _ _ _ _ _ _ _ _ _ _ _ _ _ _ _ _ _ _ _ _ _ _ _ _ _ _ _ _ _ _ _ _ _ _ _ _ _ _ _ _ _ _ _ _ _ _ _ _ _ _ _ _ _ _ _ _ _ _ _ _ _ _ _ _ _ _ _ _ _ _ _ _ _ _ _ _ _ _ _ _ _ _ _ _ _ _ _ _ _ _ _ _ _ _ _ _ _ _ _ _ _ _ _ _ _ _ _ _ _ _ _ _ _ _ _ _ _ _ _ _ _ _ _ _ _ _ _ _ _ _ _ _ _ _ _ _ _ _ _ _ _ _ _ _ _ _ _ _ _ _ _ _ _ _ _ _ _ _ _ _ _ _ _ _ _ _ _ _ _ _ _ _ _ _ _ _ _ _ _ _ _ _ _ _ _ _ _ _ _ _ _ _ _ _ _ _ _ _ _ _ _ _ _ _ _ _ _ _ _ _ _ _ _ _ _ _ _ _ _ _ _ _ _ _ _ _ _ _ _ _ _ _ _ _ _ _ _ _ _ _ _ _ _ _ _ _ _ _ _ _ _ _ _ _ _ _ _ _ _ _ _ _ _ _ _ _ _ _ _ _ _ _ _ _ _ _ _ _ _ _ _ _ _ _ _ _ _ _ _ _ _ _ _ _ _ _ _ _ _ _ _ _ _ _ _ _ _ _ _ _ _ _ _ _ _ _ _ _ _ _ _ _ _ _ _ _ _ _ _ _ _ _ _ _ _ _ _ _ _ _ _ _ _ _ _ _ _ _ _ _ _ _ _ _ _ _ _ _ _ _ _ _ _ _ _ _ _ _ _ _ _ _ _ _ _ _ _ _ _ _ _ _ _ _ _ _ _ _ _ _ _ _ _ hN32 hcp Hd0.out h3 h5 hLB
    · go_wp2_with fail
      exact bodyPost_ret (by simp [results, Ybaf.results3, go_sem]; try rfl) rfl ⟨rfl, Below.refl _ _⟩
  · go_wp2_with fail
    exact bodyPost_ret (by simp [results, Ybaf.results3, go_sem]; try rfl) rfl ⟨rfl, Below.refl _ _⟩

end Go.Proofs.YbulkcfwsFmt
