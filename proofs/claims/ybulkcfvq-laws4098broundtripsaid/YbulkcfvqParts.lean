import Derived.Test.YbulkcfvqRows
import Derived.WalkKit
import Derived.WalkSpells
import Derived.WalkLawsBesides
import Derived.Deep.QuietTactic
import Derived.BigQuiet
import Derived.BigRegion
namespace Go.Proofs.Ybulkcfvq
open Go.RowKit

/-- s where c, else the empty string. -/
def pick (c : Bool) (s : ByteArray) : ByteArray := if c then s else { data := #[] }
theorem pick_true {c : Bool} (h : c = true) (s : ByteArray) : pick c s = s := by rw [h]; rfl
theorem pick_false {c : Bool} (h : c = false) (s : ByteArray) : pick c s = { data := #[] } := by rw [h]; rfl

set_option maxHeartbeats 4000000 in
theorem pyParts_any (T : ByteArray) (pe pr pp po pd : Nat) (w : World) (h1 : pe ≤ pr) (h2 : pr ≤ pp) (h3 : pp ≤ po) (h4 : po ≤ pd) (h5 : pd ≤ T.size) (h6 : pp < po → pp + 5 ≤ po) (h7 : po < pd → po + 4 ≤ pd) (h8 : T.size ≤ 100000) :
    Calls Yba.prog 9 #[.agg #[.int .i64 4, .string T, .string { data := #[] }, .string { data := #[] }, .string { data := #[] }, .string { data := #[] }, .int .i64 pe, .int .i64 pr, .int .i64 pp, .int .i64 po, .int .i64 pd, .string { data := #[] }]] w fun e w' =>
      e = .returned (.agg #[.string (pick (decide (0 < pe)) (T.extract 0 (pe - 1))), .string (T.extract pe pr), .string (T.extract pr pp), .string (pick (decide (pp < po)) (T.extract (pp + 5) po)), .string (pick (decide (po < pd)) (T.extract (po + 4) pd)), .string (pick (decide (pd < T.size)) (T.extract (pd + 1) T.size))]) ∧ Grown w w' := by
  go_enter Yba.func9, Yba.ntmps9
  go_wp2
  go_region
  go_wp2
  all_goals (go_region)
  all_goals (go_wp2)
  all_goals
    refine bodyPost_ret (v := .agg #[.string (pick (decide (0 < pe)) (T.extract 0 (pe - 1))), .string (T.extract pe pr), .string (T.extract pr pp), .string (pick (decide (pp < po)) (T.extract (pp + 5) po)), .string (pick (decide (po < pd)) (T.extract (po + 4) pd)), .string (pick (decide (pd < T.size)) (T.extract (pd + 1) T.size))]) ?_ rfl ⟨rfl, by repeat (first | exact Grown.refl _ | apply Grown.drew | apply Grown.alloc)⟩
    simp [results, Yba.results9, go_sem, pick, *]
end Go.Proofs.Ybulkcfvq
