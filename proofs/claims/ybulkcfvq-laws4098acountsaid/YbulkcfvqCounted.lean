import Derived.Test.YbulkcfvqCount
import Derived.ProofKit
import Derived.OpenShut
import Derived.ShutString
import Derived.ChangeOld
import Derived.Below
import Derived.SizedLaws
namespace Go.Proofs.Ybulkcfvq.lawS4098ACount
open Go.ChangeShapes Go.WideShapes Go.ChangeAt Go.RowKit
open Go.ChangeMaps (open_string shut_string)
set_option linter.unusedVariables false

theorem own : ownKnob Yba.prog.godebug = none := by kernel_rfl
theorem laidOut : laidOutB Yba.prog = true := by kernel_rfl
theorem cells9 : Yba.prog.cellsOf 9 = 1 := by kernel_rfl
theorem cells23 : Yba.prog.cellsOf 23 = 6 := by kernel_rfl

theorem array6 {cs : Array Value} (h : cs.size = 6) : ∃ a b c d e f, cs = #[a, b, c, d, e, f] := by
  obtain ⟨l⟩ := cs
  match l, h with
  | [a, b, c, d, e, f], _ => exact ⟨a, b, c, d, e, f, rfl⟩

theorem list6 {α : Type} {l : List α} (h : l.length = 6) : ∃ a b c d e f, l = [a, b, c, d, e, f] := by
  match l, h with
  | [a, b, c, d, e, f], _ => exact ⟨a, b, c, d, e, f, rfl⟩

/-- The struct that came in: six strings. -/
theorem open_raw {H : Type} {enc : TypeId × Value → H} {W : World} {r : Reach} {b0 : Nat} {v : Value} {d : DataW H} {p : List MemPlace} (hv : Value.okWide Yba.prog W r b0 23 v)
    (h : DataW.Trod enc Yba.prog W 0 (fun _ => true) true 23 v d p) :
    ∃ a b c e f g : ByteArray, v = .agg #[.string a, .string b, .string c, .string e, .string f, .string g] ∧ d = .agg [.lit (.string a.data.toList), .lit (.string b.data.toList), .lit (.string c.data.toList), .lit (.string e.data.toList), .lit (.string f.data.toList), .lit (.string g.data.toList)] := by
  obtain ⟨cs, rfl, hsz⟩ := okWide_struct Yba.underlying23 hv
  obtain ⟨v0, v1, v2, v3, v4, v5, rfl⟩ := array6 (hsz.trans cells23)
  obtain ⟨fuel, hf⟩ := h
  obtain ⟨xs, n, -, hx, -, hl, hall⟩ := DataW.trod_struct Yba.underlying23 hf
  obtain ⟨y0, y1, y2, y3, y4, y5, rfl⟩ := list6 hl
  have h0 := hall 0 _ rfl
  have h1 := hall 1 _ rfl
  have h2 := hall 2 _ rfl
  have h3 := hall 3 _ rfl
  have h4 := hall 4 _ rfl
  have h5 := hall 5 _ rfl
  simp only [Value.cells] at h0 h1 h2 h3 h4 h5
  obtain ⟨s0, e0, q0, -⟩ := DataW.trod_string Yba.underlying9 h0
  obtain ⟨s1, e1, q1, -⟩ := DataW.trod_string Yba.underlying9 h1
  obtain ⟨s2, e2, q2, -⟩ := DataW.trod_string Yba.underlying9 h2
  obtain ⟨s3, e3, q3, -⟩ := DataW.trod_string Yba.underlying9 h3
  obtain ⟨s4, e4, q4, -⟩ := DataW.trod_string Yba.underlying9 h4
  obtain ⟨s5, e5, q5, -⟩ := DataW.trod_string Yba.underlying9 h5
  simp [cells9] at e0 e1 e2 e3 e4 e5
  subst e0 e1 e2 e3 e4 e5 q0 q1 q2 q3 q4 q5
  simp only [Prod.mk.injEq] at hx
  exact ⟨s0, s1, s2, s3, s4, s5, rfl, hx.1⟩

theorem walk (a b c e f g : ByteArray) (w : World) (h0 : a.size ≤ 140737488355328) (h1 : b.size ≤ 140737488355328) (h2 : c.size ≤ 140737488355328) (h3 : e.size ≤ 140737488355328) (h4 : f.size ≤ 140737488355328) (h5 : g.size ≤ 140737488355328) :
    Calls Yba.prog 3 #[.agg #[.string a, .string b, .string c, .string e, .string f, .string g]] w fun en w' => en = .returned (.bool true) ∧ Below w.heap.size w w' := by
  by_cases hs : a.size + b.size + c.size + e.size + f.size + g.size ≤ 4096
  · exact count_any a b c e f g w hs
  · exact count_big a b c e f g w h0 h1 h2 h3 h4 h5 (by omega)

set_option maxRecDepth 100000 in
theorem lifted (os : Os) (started : os.Started) (H : Type) (enc : TypeId × Value → H) :
    ReturnsInHanded {} Yba.checked os 3 .any (Rows.lawS4098ACountSpec.pre6 enc Yba.prog Yba.f3 Rows.lawS4098ACountRow.domain false) (Rows.lawS4098ACountSpec.post enc Yba.prog Yba.f3 false true false false) := by
  refine returnsInHanded_of_change_sized (C := Yba.checked) own started (by kernel_rfl) Yba.func3
    (ChangeSpec.witness6 (enc := enc) (C := Yba.checked) false ⟨#[], #[.agg #[.string ByteArray.empty, .string ByteArray.empty, .string ByteArray.empty, .string ByteArray.empty, .string ByteArray.empty, .string ByteArray.empty]], []⟩ 8 (by kernel_rfl) (by kernel_rfl) (by kernel_rfl) (by kernel_rfl)) ?_
  intro W base args ds gs before hval0 hW hcnd hsz0 _
  have hval : ∀ (j : Nat) t v, Yba.f3.params[j]? = some t → args[j]? = some v → Value.okWide Yba.prog W .any base t v := hval0
  have hW' := hW
  obtain ⟨p, q, hA0, hV, rfl, hfz, hnd⟩ := hW
  have hA : DataW.TrodAll enc Yba.prog W 0 (fun _ => true) true Yba.f3.params.toList args.toList ds p := hA0
  have hsz : (DataW.weightsEach Yba.prog (Yba.f3.params.toList ++ Rows.lawS4098ACountSpec.plain.varTypes Yba.prog) (ds ++ gs)).all (· ≤ reachBytes) = true := hsz0
  rw [Yba.params3] at hA hval hsz
  obtain ⟨v0, vs0, d0, ds0, p0, q0, hargs, rfl, rfl, h0, r0⟩ := trodAll_cons hA
  obtain ⟨rfl, rfl, rfl⟩ := trodAll_nil r0
  obtain rfl : args = #[v0] := by cases args; simp_all
  obtain ⟨rfl, rfl⟩ := trodVars_none hV
  have k0 := h0
  have lt0 : ∀ x ∈ p0, x.block < W.heap.size := by obtain ⟨m, hm⟩ := k0; exact DataW.trod_lt m _ _ _ hm
  obtain ⟨a, b, c, e, f, g, rfl, rfl⟩ := open_raw (hval 0 23 v0 rfl rfl) h0
  have hw := List.all_eq_true.1 hsz
  have hr : reachBytes < 140737488355328 := reachBytes_lt
  have sz : ∀ x : ByteArray, x.data.toList.length ∈ DataW.weights (H := H) Yba.prog 23 (.agg [.lit (.string a.data.toList), .lit (.string b.data.toList), .lit (.string c.data.toList), .lit (.string e.data.toList), .lit (.string f.data.toList), .lit (.string g.data.toList)]) → x.size ≤ 140737488355328 := by
    intro x hx
    have := hw _ (DataW.weights_mem_each (j := 0) (t := 23) rfl rfl _ hx)
    simp at this
    omega
  have z0 := sz a (by simp [DataW.weights, DataW.weightsEach, Yba.underlying23])
  have z1 := sz b (by simp [DataW.weights, DataW.weightsEach, Yba.underlying23])
  have z2 := sz c (by simp [DataW.weights, DataW.weightsEach, Yba.underlying23])
  have z3 := sz e (by simp [DataW.weights, DataW.weightsEach, Yba.underlying23])
  have z4 := sz f (by simp [DataW.weights, DataW.weightsEach, Yba.underlying23])
  have z5 := sz g (by simp [DataW.weights, DataW.weightsEach, Yba.underlying23])
  clear hA0 hval0 hsz0 hsz hw sz
  refine (walk a b c e f g W z0 z1 z2 z3 z4 z5).mono fun en W' ⟨he, bel⟩ => ?_
  subst he
  exact ⟨_, rfl, _, _, _, [], _, [], hW', trodAll_mk1 (shut_bool Yba.underlying4 _), (trodAll_cons_mk (Below.trod laidOut (by kernel_rfl) (of_decide_eq_true (by kernel_rfl)) k0 bel lt0) trodAll_mk0), rfl, bel.frame _, fun h => by cases h⟩

theorem over : Rows.lawS4098ACountRow.holds Yba.pinned (OpenSpec.ofChange Rows.lawS4098ACountSpec) :=
  OpenClaim.holds_of_wide 3 Yba.f3 rfl rfl rfl rfl rfl rfl rfl ⟨rfl, rfl, rfl, rfl, rfl⟩ rfl rfl rfl rfl rfl (by kernel_rfl) Yba.func3 (by kernel_rfl)
    (of_decide_eq_true (by kernel_rfl)) (by unfold Func.isWrapper; first | (rw [if_pos (by decide +kernel)]; kernel_rfl) | (rw [if_neg (by decide +kernel)]; exact ⟨rfl, rfl⟩))
    (fun os started H enc _ => lifted os started H enc)
end Go.Proofs.Ybulkcfvq.lawS4098ACount

namespace Go.Proofs.Ybulkcfvq
theorem lawS4098ACount_proved : Rows.LawS4098ACountSaid := lawS4098ACount.over
end Go.Proofs.Ybulkcfvq
