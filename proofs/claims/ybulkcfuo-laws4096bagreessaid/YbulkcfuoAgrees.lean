/-
  The frame is the shell that came with the seat (proof-skeleton.mjs); the walk is ours.
-/
import Derived.Test.YbulkcfuoWalk
import Derived.ProofKit
import Derived.OpenShut
import Derived.ShutString
namespace Go.Proofs.Ybulkcfuo.lawS4096BAgrees
open Go.ChangeShapes Go.WideShapes Go.ChangeAt Go.RowKit
open Go.ChangeMaps (open_string shut_string)
set_option linter.unusedVariables false      -- a walk need not use every 'w<i>' (that an integer argument fits its kind)

theorem own : ownKnob Yba.prog.godebug = none := by kernel_rfl

theorem pool_at (j : Nat) (h : j < 8) : ∃ x, [Value.int IntKind.i32 21313, Value.int IntKind.i32 30334, Value.int IntKind.i32 21315, Value.int IntKind.i32 19975, Value.int IntKind.i32 20159, Value.int IntKind.i32 38646, Value.int IntKind.i32 19968, Value.int IntKind.i32 20004][j]? = some (.int .i32 x) := by
  rcases (by omega : j = 0 ∨ j = 1 ∨ j = 2 ∨ j = 3 ∨ j = 4 ∨ j = 5 ∨ j = 6 ∨ j = 7) with rfl | rfl | rfl | rfl | rfl | rfl | rfl | rfl
  all_goals exact ⟨_, rfl⟩

set_option maxHeartbeats 400000 in
theorem walk (a0 : Int) (a1 : Int) (w0 : (Lit.int .u8 a0).wf = true) (w1 : (Lit.int .i32 a1).wf = true) (w : World) :
    Calls Yba.prog 3 #[.int .u8 a0, .int .i32 a1] w fun e w' => e = .returned (.bool true) ∧ Grown w w' := by
  obtain ⟨b0, b1⟩ := bounds_u8 w0
  clear w0 w1
  by_cases he : a0 % 2 = 0
  · have he' : (a0 % 2 == 0) = true := by rw [he]; rfl
    clear he
    obtain ⟨x, hx⟩ := pool_at (a0 / 2 % 8).toNat (by omega)
    go_enter Yba.func3, Yba.ntmps3
    go_wp2_with (first | (go_at_call 4; refine (unit_any _ _).mono ?_; rintro e w' ⟨rfl, rfl⟩) | (go_at_call 5; refine (model_any _ _).mono ?_; rintro e w' ⟨rfl, rfl⟩))
    go_ret
    exact ⟨rfl, by repeat (first | exact Grown.refl _ | apply Grown.drew | apply Grown.alloc)⟩
  · have he' : (a0 % 2 == 0) = false := beq_eq_false_iff_ne.2 he
    clear he
    go_enter Yba.func3, Yba.ntmps3
    go_wp2_with (first | (go_at_call 4; refine (unit_any _ _).mono ?_; rintro e w' ⟨rfl, rfl⟩) | (go_at_call 5; refine (model_any _ _).mono ?_; rintro e w' ⟨rfl, rfl⟩))
    go_ret
    exact ⟨rfl, by repeat (first | exact Grown.refl _ | apply Grown.drew | apply Grown.alloc)⟩

/-! ### THE ROW's STEP: WRITTEN OUT: LEAVE IT -/
set_option maxRecDepth 100000 in
theorem lifted (os : Os) (started : os.Started) (H : Type) (enc : TypeId × Value → H) :
    ReturnsInHanded {} Yba.checked os 3 .any (Rows.lawS4096BAgreesSpec.pre6 enc Yba.prog Yba.f3 Rows.lawS4096BAgreesRow.domain false) (Rows.lawS4096BAgreesSpec.post enc Yba.prog Yba.f3 false true false false) := by
  refine returnsInHanded_of_change (C := Yba.checked) own started (by kernel_rfl) Yba.func3
    (ChangeSpec.witness6 (enc := enc) (C := Yba.checked) false ⟨#[], #[.int .u8 0, .int .i32 0], []⟩ 8 (by kernel_rfl) (by kernel_rfl) (by kernel_rfl) (by kernel_rfl)) ?_
  intro W base args ds gs before hval0 hW hcnd _
  have hval : ∀ (j : Nat) t v, Yba.f3.params[j]? = some t → args[j]? = some v → Value.okWide Yba.prog W .any base t v := hval0
  have hW' := hW
  obtain ⟨p, q, hA0, hV, rfl, hfz, hnd⟩ := hW
  have hA : DataW.TrodAll enc Yba.prog W 0 (fun _ => true) true Yba.f3.params.toList args.toList ds p := hA0
  rw [Yba.params3] at hA hval
  obtain ⟨v0, vs0, d0, ds0, p0, q0, hargs, rfl, rfl, h0, r0⟩ := trodAll_cons hA
  obtain ⟨v1, vs1, d1, ds1, p1, q1, rfl, rfl, rfl, h1, r1⟩ := trodAll_cons r0
  obtain ⟨rfl, rfl, rfl⟩ := trodAll_nil r1
  obtain rfl : args = #[v0, v1] := by cases args; simp_all
  obtain ⟨rfl, rfl⟩ := trodVars_none hV
  obtain ⟨a0, rfl, rfl, rfl, w0⟩ := open_int Yba.underlying5 (hval 0 5 v0 rfl rfl) h0
  obtain ⟨a1, rfl, rfl, rfl, w1⟩ := open_int Yba.underlying21 (hval 1 21 v1 rfl rfl) h1
  clear hA0 hval0
  simp only [List.append_nil] at hW'
  refine (walk a0 a1 w0 w1 W).mono fun e W' ⟨he, hg⟩ => ?_
  subst he
  exact ⟨_, rfl, post_of_same (pa := []) (pv := []) hW' (fun _ _ _ => (trodAll_cons_mk (shut_bool Yba.underlying4 _) trodAll_mk0)) (fun sp _ => (trodAll_cons_mk (shut_int Yba.underlying5 w0) (trodAll_cons_mk (shut_int Yba.underlying21 w1) trodAll_mk0))) (fun _ _ => rfl) rfl
    (hg.frame _) hg.2.1 (ok_one (by kernel_rfl) rfl (okWide_bool_mk Yba.underlying4 _))⟩

theorem over : Rows.lawS4096BAgreesRow.holds Yba.pinned (OpenSpec.ofChange Rows.lawS4096BAgreesSpec) :=
  OpenClaim.holds_of_wide 3 Yba.f3 rfl rfl rfl rfl rfl rfl rfl ⟨rfl, rfl, rfl, rfl, rfl⟩ rfl rfl rfl rfl rfl (by kernel_rfl) Yba.func3 (by kernel_rfl)
    (of_decide_eq_true (by kernel_rfl)) (by unfold Func.isWrapper; first | (rw [if_pos (by decide +kernel)]; kernel_rfl) | (rw [if_neg (by decide +kernel)]; exact ⟨rfl, rfl⟩))
    (fun os started H enc _ => lifted os started H enc)

end Go.Proofs.Ybulkcfuo.lawS4096BAgrees

namespace Go.Proofs.Ybulkcfuo
theorem lawS4096BAgrees_proved : Rows.LawS4096BAgreesSaid := lawS4096BAgrees.over
end Go.Proofs.Ybulkcfuo
