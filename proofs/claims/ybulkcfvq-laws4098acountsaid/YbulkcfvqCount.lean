import Derived.Test.YbulkcfvqNear
namespace Go.Proofs.Ybulkcfvq
open Go.RowKit

def cntA (p o d l : ByteArray) : Nat := bif anyB p o d l then 1 else 0
def cntB (o d : ByteArray) : Nat := bif neB d then (bif neB o then 2 else 1) else bif neB o then 2 else 0
def cntC (p : ByteArray) : Nat := bif neB p then 5 else 0

theorem cell6 (ys : List Py) (e r : ByteArray) (h : ∀ y ∈ ys, y.e = e ∧ y.r = r) : ∀ i, i < ys.length → (cellsP ys)[i * 6]? = some (.string e) ∧ (cellsP ys)[i * 6 + 1]? = some (.string r) := by
  induction ys with
  | nil => intro i hi; simp at hi
  | cons y ys ih =>
    intro i hi
    have e0 : cellsP (y :: ys) = y.cells ++ cellsP ys := rfl
    have hl : y.cells.length = 6 := rfl
    rw [e0]
    cases i with
    | zero =>
      have := h y (List.mem_cons_self ..)
      exact ⟨by simp [Py.cells, this.1], by simp [Py.cells, this.2]⟩
    | succ i =>
      have hi' : i < ys.length := by simpa using hi
      have := ih (fun y hy => h y (List.mem_cons_of_mem _ hy)) i hi'
      rw [List.getElem?_append_right (by rw [hl]; omega), List.getElem?_append_right (by rw [hl]; omega), hl, show (i + 1) * 6 - 6 = i * 6 from by omega, show (i + 1) * 6 + 1 - 6 = i * 6 + 1 from by omega]
      exact this

theorem segA_er (y : Py) : ∀ x ∈ segA y, x.e = y.e ∧ x.r = y.r := by
  unfold segA
  cases anyB y.p y.o y.d y.l
  · intro x hx; cases hx
  · intro x hx; obtain rfl := List.mem_singleton.1 hx; exact ⟨rfl, rfl⟩
theorem segB_er (y : Py) (di oi : ByteArray) : ∀ x ∈ segB y di oi, x.e = y.e ∧ x.r = y.r := by
  unfold segB
  cases neB y.d <;> cases neB y.o
  · intro x hx; cases hx
  · intro x hx
    simp only [cond_false, cond_true, List.mem_cons, List.not_mem_nil, or_false] at hx
    rcases hx with rfl | rfl <;> exact ⟨rfl, rfl⟩
  · intro x hx; obtain rfl := List.mem_singleton.1 hx; exact ⟨rfl, rfl⟩
  · intro x hx
    simp only [cond_true, List.mem_cons, List.not_mem_nil, or_false] at hx
    rcases hx with rfl | rfl <;> exact ⟨rfl, rfl⟩
theorem segC_er (y : Py) (n1 n2 : ByteArray) : ∀ x ∈ segC y n1 n2, x.e = y.e ∧ x.r = y.r := by
  unfold segC
  cases neB y.p
  · intro x hx; cases hx
  · intro x hx
    simp only [cond_true, List.mem_cons, List.not_mem_nil, or_false] at hx
    rcases hx with rfl | rfl | rfl | rfl | rfl <;> exact ⟨rfl, rfl⟩
theorem all_er (y : Py) (di oi n1 n2 : ByteArray) : ∀ x ∈ segA y ++ segB y di oi ++ segC y n1 n2, x.e = y.e ∧ x.r = y.r := by
  intro x hx
  rcases List.mem_append.1 hx with hx | hx
  · rcases List.mem_append.1 hx with hx | hx
    · exact segA_er y x hx
    · exact segB_er y di oi x hx
  · exact segC_er y n1 n2 x hx

theorem all_len (p o d l : ByteArray) (e r di oi n1 n2 : ByteArray) : (segA ⟨e, r, p, o, d, l⟩ ++ segB ⟨e, r, p, o, d, l⟩ di oi ++ segC ⟨e, r, p, o, d, l⟩ n1 n2).length = cntA p o d l + cntB o d + cntC p := by
  rw [List.length_append, List.length_append]
  have h1 : (segA ⟨e, r, p, o, d, l⟩).length = cntA p o d l := by unfold segA cntA; cases anyB p o d l <;> rfl
  have h2 : (segB ⟨e, r, p, o, d, l⟩ di oi).length = cntB o d := by unfold segB cntB; cases neB d <;> cases neB o <;> rfl
  have h3 : (segC ⟨e, r, p, o, d, l⟩ n1 n2).length = cntC p := by unfold segC cntC; cases neB p <;> rfl
  rw [h1, h2, h3]

theorem count_facts {w : World} {base : Nat} {e r p o d l : ByteArray} {v' : Value} {w' : World} (h : NearTo w (.slice none 0 0) base ⟨e, r, p, o, d, l⟩ [] v' w') :
    ∃ a cap N, v' = .slice a N cap ∧ N = cntA p o d l + cntB o d + cntC p ∧ (N = 0 ∨ ∃ g, a = some ⟨g, 0, none⟩ ∧ ∀ i, i < N → w'.cell? ⟨g, i * 6, none⟩ = some (.string e) ∧ w'.cell? ⟨g, i * 6 + 1, none⟩ = some (.string r)) ∧ Below w.heap.size w w' := by
  obtain ⟨di, oi, n1, n2, -, -, -, hown, hg, -⟩ := h
  have hb : Below w.heap.size w w' := ⟨hg.os, hg.tape, hg.output, hg.size, fun k hk => hg.block k hk (by simp [Value.ownBlock])⟩
  rw [List.nil_append] at hown
  rw [all_len] at hown
  have hown' := hown
  rcases hown'.2 with ⟨rfl, hN⟩ | ⟨g, cap, cur, rfl, -, -, -, -, -, -⟩
  · exact ⟨none, 0, 0, rfl, hN.symm, .inl rfl, hb⟩
  · refine ⟨_, cap, _, rfl, rfl, .inr ⟨g, rfl, fun i hi => ?_⟩, hb⟩
    have hc := cell6 _ e r (all_er ⟨e, r, p, o, d, l⟩ di oi n1 n2) i (by rw [all_len]; exact hi)
    exact ⟨by rw [hown.cellAt (i * 6) (by omega)]; exact hc.1, by rw [hown.cellAt (i * 6 + 1) (by omega)]; exact hc.2⟩

set_option maxHeartbeats 4000000 in
theorem count_big (E R P O D L : ByteArray) (w : World) (h0 : E.size ≤ 140737488355328) (h1 : R.size ≤ 140737488355328) (h2 : P.size ≤ 140737488355328) (h3 : O.size ≤ 140737488355328) (h4 : D.size ≤ 140737488355328) (h5 : L.size ≤ 140737488355328) (hs : 4096 < E.size + R.size + P.size + O.size + D.size + L.size) :
    Calls Yba.prog 3 #[.agg #[.string E, .string R, .string P, .string O, .string D, .string L]] w fun en w' => en = .returned (.bool true) ∧ Below w.heap.size w w' := by
  go_enter Yba.func3, Yba.ntmps3
  go_wp2
  go_ret
  exact ⟨rfl, (Below.refl _ _).alloc (Nat.le_refl _) _⟩

set_option maxHeartbeats 4000000 in
set_option maxRecDepth 100000 in
theorem count_any (E R P O D L : ByteArray) (w : World) (hs : E.size + R.size + P.size + O.size + D.size + L.size ≤ 4096) :
    Calls Yba.prog 3 #[.agg #[.string E, .string R, .string P, .string O, .string D, .string L]] w fun en w' => en = .returned (.bool true) ∧ Below w.heap.size w w' := by
  go_enter Yba.func3, Yba.ntmps3
  go_wp2_with fail
  refine (near_any (.slice none 0 0) _ [] E R P O D L _ (World.ownsRow_nil _ _ _ _) (Nat.le_refl _) (by simp) (by omega) (by omega) (by omega)).mono ?_
  rintro en w1 ⟨v', rfl, hN⟩
  obtain ⟨a, cap, N, rfl, hNn, hcells, hb⟩ := count_facts hN
  clear hN
  have hc : ∀ i, i < 6 → w1.cell? ⟨w.heap.size, i, none⟩ = (w.alloc (.cells #[.string E, .string R, .string P, .string O, .string D, .string L] 23)).cell? ⟨w.heap.size, i, none⟩ := by
    intro i _
    rw [hb.cell (p := ⟨w.heap.size, i, none⟩) (by simp; omega)]
    go_simp
  have e0 : w1.cell? ⟨w.heap.size, 0, none⟩ = some (.string E) := by rw [hc 0 (by omega)]; go_simp
  have e1 : w1.cell? ⟨w.heap.size, 1, none⟩ = some (.string R) := by rw [hc 1 (by omega)]; go_simp
  have e2 : w1.cell? ⟨w.heap.size, 2, none⟩ = some (.string P) := by rw [hc 2 (by omega)]; go_simp
  have e3 : w1.cell? ⟨w.heap.size, 3, none⟩ = some (.string O) := by rw [hc 3 (by omega)]; go_simp
  have e4 : w1.cell? ⟨w.heap.size, 4, none⟩ = some (.string D) := by rw [hc 4 (by omega)]; go_simp
  have e5 : w1.cell? ⟨w.heap.size, 5, none⟩ = some (.string L) := by rw [hc 5 (by omega)]; go_simp
  have HB : Hid (Below w.heap.size w w1) := ((((Below.refl _ _).alloc (Nat.le_refl _) _).alloc (by simp) _).trans (hb.mono (by simp; omega)))
  have HN : Hid (N = cntA P O D L + cntB O D + cntC P) := hNn
  have HC : Hid (N = 0 ∨ ∃ g, a = some ⟨g, 0, none⟩ ∧ ∀ i, i < N → w1.cell? ⟨g, i * 6, none⟩ = some (.string E) ∧ w1.cell? ⟨g, i * 6 + 1, none⟩ = some (.string R)) := hcells
  clear hc hb hNn hcells
  go_upto_region 6 with fail
  go_cut [63] (fun t wr => .bool (anyB P O D L) = t ∧ w1 = wr)
  case first =>
    go_wp2_with fail
    all_goals
      go_meet
      case rel => exact ⟨by simp [anyB, *], rfl⟩
  case rest =>
    obtain ⟨h1, h2⟩ := hcut
    subst h1
    subst h2
    go_upto_if 63 with fail
    go_cut [5] (fun t wr => .int .i64 ((cntA P O D L : Nat) : Int) = t ∧ w1 = wr)
    case first =>
      cases hA : anyB P O D L
      · have e : Hid (cntA P O D L = 0) := by simp [cntA, hA, Hid]
        go_wp2_with fail
        go_meet
        case rel => exact ⟨by rw [e.out]; rfl, rfl⟩
      · have e : Hid (cntA P O D L = 1) := by simp [cntA, hA, Hid]
        go_wp2_with fail
        go_meet
        case rel => exact ⟨by rw [e.out]; rfl, rfl⟩
    case rest =>
      obtain ⟨h1, h2⟩ := hcut
      subst h1
      subst h2
      have hA1 : cntA P O D L ≤ 1 := by unfold cntA; cases anyB P O D L <;> simp
      generalize hnA : cntA P O D L = nA at *
      clear hnA
      go_upto_if 68 with fail
      go_cut [5] (fun t wr => .int .i64 ((nA + cntB O D : Nat) : Int) = t ∧ w1 = wr)
      case first =>
        cases hD : neB D
        · have hD' : (!D.toList.isEmpty) = false := hD
          rw [hD']
          cases hO : neB O
          · have hO' : (!O.toList.isEmpty) = false := hO
            have e : Hid (cntB O D = 0) := by simp [cntB, hD, hO, Hid]
            go_wp2_with fail
            go_meet
            case rel => exact ⟨by rw [e.out]; rfl, rfl⟩
          · have hO' : (!O.toList.isEmpty) = true := hO
            have e : Hid (cntB O D = 2) := by simp [cntB, hD, hO, Hid]
            go_wp2_with fail
            go_meet
            case rel => exact ⟨by rw [e.out]; go_num, rfl⟩
        · have hD' : (!D.toList.isEmpty) = true := hD
          rw [hD']
          cases hO : neB O
          · have hO' : (!O.toList.isEmpty) = false := hO
            have e : Hid (cntB O D = 1) := by simp [cntB, hD, hO, Hid]
            go_wp2_with fail
            go_meet
            case rel => exact ⟨by rw [e.out]; go_num, rfl⟩
          · have hO' : (!O.toList.isEmpty) = true := hO
            have e : Hid (cntB O D = 2) := by simp [cntB, hD, hO, Hid]
            go_wp2_with fail
            go_meet
            case rel => exact ⟨by rw [e.out]; go_num, rfl⟩
      case rest =>
        obtain ⟨h1, h2⟩ := hcut
        subst h1
        subst h2
        have hB1 : cntB O D ≤ 2 := by unfold cntB; cases neB D <;> cases neB O <;> simp
        generalize hnB : cntB O D = nB at *
        clear hnB
        go_upto_if 83 with fail
        go_cut [5] (fun t wr => .int .i64 ((N : Nat) : Int) = t ∧ w1 = wr)
        case first =>
          cases hP : neB P
          · have hP' : (!P.toList.isEmpty) = false := hP
            rw [hP']
            have e : Hid (nA + nB = N) := by have := HN.out; simp [cntC, hP] at this; exact this.symm
            go_wp2_with fail
            go_meet
            case rel => exact ⟨by rw [← e.out], rfl⟩
          · have hP' : (!P.toList.isEmpty) = true := hP
            rw [hP']
            have e : Hid (nA + nB + 5 = N) := by have := HN.out; simp [cntC, hP] at this; exact this.symm
            go_wp2_with fail
            go_meet
            case rel => exact ⟨by rw [← e.out]; go_num, rfl⟩
        case rest =>
          obtain ⟨h1, h2⟩ := hcut
          subst h1
          subst h2
          have hC5 : cntC P ≤ 5 := by unfold cntC; cases neB P <;> simp
          have hN8 : N ≤ 8 := by have := HN.out; omega
          clear HN
          go_wp2_with fail
          go_loopw [6] (fun i wr => ∃ k : Nat, k ≤ N ∧ i = .int .i64 k ∧ ∃ q, wr = w1.drewN q) (fun i _ => N - (intOf i).toNat)
          case atStart => exact ⟨0, Nat.zero_le _, rfl, 0, rfl⟩
          case round =>
            obtain ⟨k, hk, rfl, q, rfl⟩ := hrel
            by_cases hlt : k < N
            · obtain ⟨g, rfl, hgc⟩ : ∃ g, a = some ⟨g, 0, none⟩ ∧ ∀ i, i < N → w1.cell? ⟨g, i * 6, none⟩ = some (.string E) ∧ w1.cell? ⟨g, i * 6 + 1, none⟩ = some (.string R) := by
                rcases HC.out with h0 | h
                · omega
                · exact h
              obtain ⟨g0, g1⟩ := hgc k hlt
              clear hgc
              go_wp2_with fail
              go_quiet (fail)
              go_wp2_with fail
              go_roundw
              case rel => exact ⟨k + 1, by omega, by go_num, _, rfl⟩
              case measure => simp [intOf]; omega
            · go_wp2_with fail
              go_ret
              exact ⟨rfl, HB.out.trans ⟨rfl, rfl, rfl, Nat.le_refl _, fun _ _ => rfl⟩⟩
end Go.Proofs.Ybulkcfvq
