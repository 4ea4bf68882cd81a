import Derived.Test.YbulkcfvqDoorLaw1
import Derived.ProofKit
import Derived.OpenShut
import Derived.ShutString
import Derived.ChangeOld
import Derived.Below
import Derived.SizedLaws
import Derived.LaidMore
import Derived.Stop.Joined
namespace Go.Proofs.YbulkcfvqDoor.lawS4098AProbes
open Go.ChangeShapes Go.WideShapes Go.ChangeAt Go.RowKit
set_option linter.unusedVariables false

theorem own : ownKnob Ybad.prog.godebug = none := by kernel_rfl
theorem laidOut : laidOutB Ybad.prog = true := by kernel_rfl
theorem cells9 : Ybad.prog.cellsOf 9 = 1 := by kernel_rfl
theorem cells4 : Ybad.prog.cellsOf 4 = 1 := by kernel_rfl
theorem cells5 : Ybad.prog.cellsOf 5 = 1 := by kernel_rfl
theorem cells22 : Ybad.prog.cellsOf 22 = 1 := by kernel_rfl
theorem cells24 : Ybad.prog.cellsOf 24 = 11 := by kernel_rfl

theorem array11 {cs : Array Value} (h : cs.size = 11) : ∃ a b c d e f g i j k l, cs = #[a, b, c, d, e, f, g, i, j, k, l] := by
  obtain ⟨m⟩ := cs
  match m, h with
  | [a, b, c, d, e, f, g, i, j, k, l], _ => exact ⟨a, b, c, d, e, f, g, i, j, k, l, rfl⟩
theorem list11 {α : Type} {m : List α} (h : m.length = 11) : ∃ a b c d e f g i j k l, m = [a, b, c, d, e, f, g, i, j, k, l] := by
  match m, h with
  | [a, b, c, d, e, f, g, i, j, k, l], _ => exact ⟨a, b, c, d, e, f, g, i, j, k, l, rfl⟩

theorem nat_of {k : IntKind} {x : Int} {b : Nat} (h0 : 0 ≤ x) (h1 : x ≤ b) : ∃ n : Nat, x = (n : Int) ∧ n ≤ b := ⟨x.toNat, by omega, by omega⟩

/-- The struct that came in. -/
theorem open_in {H : Type} {enc : TypeId × Value → H} {W : World} {r : Reach} {b0 : Nat} {v : Value} {d : DataW H} {p : List MemPlace} (hv : Value.okWide Ybad.prog W r b0 24 v)
    (h : DataW.Trod enc Ybad.prog W 0 (fun _ => true) true 24 v d p) :
    ∃ (E R L : ByteArray) (hp ho hd : Bool) (mkn pn on dn kp : Nat) (rest : List (DataW H)), v = .agg #[.string E, .string R, .string L, .bool hp, .bool ho, .bool hd, .int .u8 mkn, .int .u16 pn, .int .u16 on, .int .u16 dn, .int .u8 kp] ∧
      mkn ≤ 255 ∧ pn ≤ 65535 ∧ on ≤ 65535 ∧ dn ≤ 65535 ∧ kp ≤ 255 ∧ d = .agg (.lit (.string E.data.toList) :: .lit (.string R.data.toList) :: .lit (.string L.data.toList) :: rest) := by
  obtain ⟨cs, rfl, hsz⟩ := okWide_struct Ybad.underlying24 hv
  obtain ⟨v0, v1, v2, v3, v4, v5, v6, v7, v8, v9, v10, rfl⟩ := array11 (hsz.trans cells24)
  obtain ⟨fuel, hf⟩ := h
  obtain ⟨xs, n, -, hx, -, hl, hall⟩ := DataW.trod_struct Ybad.underlying24 hf
  obtain ⟨y0, y1, y2, y3, y4, y5, y6, y7, y8, y9, y10, rfl⟩ := list11 hl
  have h0 := hall 0 _ rfl
  have h1 := hall 1 _ rfl
  have h2 := hall 2 _ rfl
  have h3 := hall 3 _ rfl
  have h4 := hall 4 _ rfl
  have h5 := hall 5 _ rfl
  have h6 := hall 6 _ rfl
  have h7 := hall 7 _ rfl
  have h8 := hall 8 _ rfl
  have h9 := hall 9 _ rfl
  have h10 := hall 10 _ rfl
  simp only [Value.cells] at h0 h1 h2 h3 h4 h5 h6 h7 h8 h9 h10
  obtain ⟨s0, e0, q0, -⟩ := DataW.trod_string Ybad.underlying9 h0
  obtain ⟨s1, e1, q1, -⟩ := DataW.trod_string Ybad.underlying9 h1
  obtain ⟨s2, e2, q2, -⟩ := DataW.trod_string Ybad.underlying9 h2
  obtain ⟨b3, e3, q3⟩ := DataW.trod_bool Ybad.underlying4 h3
  obtain ⟨b4, e4, q4⟩ := DataW.trod_bool Ybad.underlying4 h4
  obtain ⟨b5, e5, q5⟩ := DataW.trod_bool Ybad.underlying4 h5
  obtain ⟨n6, e6, q6, w6⟩ := DataW.trod_int Ybad.underlying5 h6
  obtain ⟨n7, e7, q7, w7⟩ := DataW.trod_int Ybad.underlying22 h7
  obtain ⟨n8, e8, q8, w8⟩ := DataW.trod_int Ybad.underlying22 h8
  obtain ⟨n9, e9, q9, w9⟩ := DataW.trod_int Ybad.underlying22 h9
  obtain ⟨n10, e10, q10, w10⟩ := DataW.trod_int Ybad.underlying5 h10
  simp [cells9, cells4, cells5, cells22] at e0 e1 e2 e3 e4 e5 e6 e7 e8 e9 e10
  subst e0 e1 e2 e3 e4 e5 e6 e7 e8 e9 e10 q0 q1 q2 q3 q4 q5 q6 q7 q8 q9 q10
  simp only [Prod.mk.injEq] at hx
  have r6 := bounds_u8 w6
  have r10 := bounds_u8 w10
  have r7 := bounds_u16 w7
  have r8 := bounds_u16 w8
  have r9 := bounds_u16 w9
  obtain ⟨m6, rfl, l6⟩ := nat_of (k := .u8) (b := 255) r6.1 r6.2
  obtain ⟨m7, rfl, l7⟩ := nat_of (k := .u16) (b := 65535) r7.1 r7.2
  obtain ⟨m8, rfl, l8⟩ := nat_of (k := .u16) (b := 65535) r8.1 r8.2
  obtain ⟨m9, rfl, l9⟩ := nat_of (k := .u16) (b := 65535) r9.1 r9.2
  obtain ⟨m10, rfl, l10⟩ := nat_of (k := .u8) (b := 255) r10.1 r10.2
  exact ⟨s0, s1, s2, b3, b4, b5, m6, m7, m8, m9, m10, _, rfl, l6, l7, l8, l9, l10, hx.1⟩

/-- FROM THE ROW's CONDITION: the table. -/
theorem tab_of_laid {W : World} (h : laidMetH Ybad.prog Rows.lawS4098AProbesRow.laid W) : Tab W := by
  rw [MakeChecks.laidMetH_plain _ _ _ (by kernel_rfl)] at h
  obtain ⟨ps, ⟨g0, t0, cs0, f0, p0, q0, hg0, ht0, hv0, hd0, ⟨g1, t1, cs1, f1, p1, q1, hg1, ht1, hv1, hd1, ⟨g2, t2, cs2, f2, p2, q2, hg2, ht2, hv2, hd2, _, _⟩, _⟩, _⟩, _, _⟩ := h
  have eg : Ybad.prog.globalNamed tabName = some 0 := by kernel_rfl
  have et : (Ybad.prog.globals[0]?).map (·.type) = some 49 := by kernel_rfl
  obtain rfl := Option.some.inj (eg.symm.trans hg2)
  obtain rfl := Option.some.inj (et.symm.trans ht2)
  have hd3 : DataW.trod _ Ybad.prog W _ _ _ f2 49 cs2.toList = some (Lib.tabData .u64 Lib.pow10Tab, p2) := hd2
  have hc := Lib.cells_of_tab (n := 20) Ybad.underlying49 Ybad.underlying41 (by kernel_rfl) (by kernel_rfl) hd3
  have hv : W.var? Ybad.prog tabName = some cs2 := hv2
  show W.var? Ybad.prog tabName = _
  rw [hv, ← hc]

set_option maxRecDepth 100000 in
set_option maxHeartbeats 1000000 in
theorem big (E R L : ByteArray) (hp ho hd : Bool) (mkn pn on dn kp : Nat) (w : World) (h0 : E.size ≤ 140737488355328) (h1 : R.size ≤ 140737488355328) (h2 : L.size ≤ 140737488355328) (hs : 4096 < E.size + R.size + L.size) :
    Calls Ybad.prog 3 #[.agg #[.string E, .string R, .string L, .bool hp, .bool ho, .bool hd, .int .u8 mkn, .int .u16 pn, .int .u16 on, .int .u16 dn, .int .u8 kp]] w fun en w' => en = .returned (.bool true) ∧ Below w.heap.size w w' := by
  go_enter Ybad.func3, Ybad.ntmps3
  go_wp2
  go_ret
  exact ⟨rfl, (Below.refl _ _).alloc (Nat.le_refl _) _⟩

/-- The door's own heap meets the condition. -/
theorem door_met (os : Os) (args : Array Value) : laidMetH Ybad.prog Rows.lawS4098AProbesRow.laid ((World.doorLaid Ybad.prog 400 os).forCall (fun _ _ => 0) ⟨#[], args, []⟩).memory :=
  laidMetH_of_parts3 (fuel := 8) (laidMet_of_run' 8 (by kernel_rfl) (by kernel_rfl)) (by kernel_rfl) (by kernel_rfl)

set_option maxRecDepth 100000 in
theorem lifted (os : Os) (started : os.Started) (H : Type) (enc : TypeId × Value → H) :
    ReturnsInHanded {} Ybad.checked os 3 .any (fun w args => (Rows.lawS4098AProbesSpec.pre enc Ybad.prog Ybad.f3 [] false w args ∧ laidMetH Ybad.prog Rows.lawS4098AProbesRow.laid w) ∧ sizedMet enc Ybad.prog Ybad.f3 (OpenSpec.ofChange Rows.lawS4098AProbesSpec) false w args)
      (Rows.lawS4098AProbesSpec.post enc Ybad.prog Ybad.f3 false true false false) := by
  refine returnsInHanded_of_change_and (C := Ybad.checked) (X := fun w _ => laidMetH Ybad.prog Rows.lawS4098AProbesRow.laid w) (fun _ _ _ hh h => h.of_heap hh) own started (by kernel_rfl) Ybad.func3
    (ChangeSpec.witness_shaped (enc := enc) (C := Ybad.checked) (os := os) (X := fun w _ => laidMetH Ybad.prog Rows.lawS4098AProbesRow.laid w) false (World.doorLaid Ybad.prog 400 os) #[.agg #[.string ByteArray.empty, .string ByteArray.empty, .string ByteArray.empty, .bool false, .bool false, .bool false, .int .u8 0, .int .u16 0, .int .u16 0, .int .u16 0, .int .u8 0]] 8 rfl (World.shaped_of_RefB (by kernel_rfl) (by kernel_rfl)) (by kernel_rfl) (by kernel_rfl) (by kernel_rfl) (door_met os _)) ?_
  intro W base args ds gs before hval0 hW hcnd hsz0 hL _
  have hval : ∀ (j : Nat) t v, Ybad.f3.params[j]? = some t → args[j]? = some v → Value.okWide Ybad.prog W .any base t v := hval0
  have hW' := hW
  obtain ⟨p, q, hA0, hV, rfl, hfz, hnd⟩ := hW
  have hA : DataW.TrodAll enc Ybad.prog W 0 (fun _ => true) true Ybad.f3.params.toList args.toList ds p := hA0
  have hsz : (DataW.weightsEach Ybad.prog (Ybad.f3.params.toList ++ Rows.lawS4098AProbesSpec.plain.varTypes Ybad.prog) (ds ++ gs)).all (· ≤ reachBytes) = true := hsz0
  rw [Ybad.params3] at hA hval hsz
  obtain ⟨v0, vs0, d0, ds0, p0, q0, hargs, rfl, rfl, h0, r0⟩ := trodAll_cons hA
  obtain ⟨rfl, rfl, rfl⟩ := trodAll_nil r0
  obtain rfl : args = #[v0] := by cases args; simp_all
  obtain ⟨rfl, rfl⟩ := trodVars_none hV
  have k0 := h0
  have lt0 : ∀ x ∈ p0, x.block < W.heap.size := by obtain ⟨m, hm⟩ := k0; exact DataW.trod_lt m _ _ _ hm
  obtain ⟨E, R, L, hp, ho, hd, mkn, pn, on, dn, kp, rest, rfl, l6, l7, l8, l9, l10, rfl⟩ := open_in (hval 0 24 v0 rfl rfl) h0
  have hw := List.all_eq_true.1 hsz
  have hr : reachBytes < 140737488355328 := reachBytes_lt
  have sz : ∀ x : ByteArray, x.data.toList.length ∈ DataW.weights (H := H) Ybad.prog 24 (.agg (.lit (.string E.data.toList) :: .lit (.string R.data.toList) :: .lit (.string L.data.toList) :: rest)) → x.size ≤ 140737488355328 := by
    intro x hx
    have := hw _ (DataW.weights_mem_each (j := 0) (t := 24) rfl rfl _ hx)
    simp at this
    omega
  have z0 := sz E (by simp [DataW.weights, DataW.weightsEach, Ybad.underlying24])
  have z1 := sz R (by simp [DataW.weights, DataW.weightsEach, Ybad.underlying24])
  have z2 := sz L (by simp [DataW.weights, DataW.weightsEach, Ybad.underlying24])
  have htab := tab_of_laid hL
  clear hA0 hval0 hsz0 hsz hw sz hL
  have hwalk : Calls Ybad.prog 3 #[.agg #[.string E, .string R, .string L, .bool hp, .bool ho, .bool hd, .int .u8 mkn, .int .u16 pn, .int .u16 on, .int .u16 dn, .int .u8 kp]] W fun en w' => en = .returned (.bool true) ∧ Below W.heap.size W w' := by
    by_cases hs : E.size + R.size + L.size ≤ 4096
    · exact law_any E R L hp ho hd mkn pn on dn kp W hs l6 l7 l8 l9 l10 htab
    · exact big E R L hp ho hd mkn pn on dn kp W z0 z1 z2 (by omega)
  refine hwalk.mono fun en W' ⟨he, bel⟩ => ?_
  subst he
  exact ⟨_, rfl, _, _, _, [], _, [], hW', trodAll_mk1 (shut_bool Ybad.underlying4 _), (trodAll_cons_mk (Below.trod laidOut (by kernel_rfl) (of_decide_eq_true (by kernel_rfl)) k0 bel lt0) trodAll_mk0), rfl, bel.frame _, fun h => by cases h⟩

theorem over : Rows.LawS4098AProbesSaid :=
  OpenClaim.holds_of_wide 3 Ybad.f3 rfl rfl rfl rfl rfl rfl rfl ⟨rfl, rfl, rfl, rfl, rfl⟩ rfl rfl rfl rfl rfl (by kernel_rfl) Ybad.func3 (by kernel_rfl)
    (of_decide_eq_true (by kernel_rfl)) (by unfold Func.isWrapper; first | (rw [if_pos (by decide +kernel)]; kernel_rfl) | (rw [if_neg (by decide +kernel)]; exact ⟨rfl, rfl⟩))
    (fun os started H enc _ => lifted os started H enc)
end Go.Proofs.YbulkcfvqDoor.lawS4098AProbes
