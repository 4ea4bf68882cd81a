import Derived.Test.YbulkcfwsFmtReg
namespace Go.Proofs.YbulkcfwsFmt
open Go.RowKit

set_option maxHeartbeats 1000000 in
theorem party_any {ok : Nat → Prop} (rb p : Nat) (L : List Rel) (w : World) (h : Reg ok w rb L) (hp : p < 7) :
    Calls Ybaf.prog 77 #[.pointer (some ⟨rb, 0, none⟩), .string (nameOf p)] w fun e w' => e = .returned (.tuple #[.agg #[.string ⟨#[]⟩, .string ⟨#[]⟩, .string ⟨#[]⟩, .string ⟨#[]⟩, .bool false, .int .i32 0, .bool false], .bool false]) ∧ Below w.heap.size w w' := by
  obtain ⟨b, n, hc, hb, hm⟩ := h.c1
  have hltr := h.ltr
  have hrun : ∀ o, (Instr.lookup 69 (.map (some b)) (.string (nameOf p)) true).run Ybaf.prog (w.alloc o) = .ok (.tuple #[.int .i64 0, .bool false]) (w.alloc o) := fun o =>
    (hm.kept (World.grownBy_alloc w o none) (by simp)).lookOk Ybaf.underlying69 (zero3 _) hp (nameOf_size p)
  generalize nameOf p = s at *
  clear hm h
  go_enter Ybaf.func77, Ybaf.ntmps77
  go_wp2
  refine bodyPost_ret (by simp [results, Ybaf.results77, go_sem]; try rfl) rfl ?_
  exact ⟨rfl, (Below.refl _ w).alloc (Nat.le_refl _) _⟩

set_option maxHeartbeats 1000000 in
theorem adult_any {ok : Nat → Prop} (rb p : Nat) (L : List Rel) (d : Int) (w : World) (h : Reg ok w rb L) (hp : p < 7) :
    Calls Ybaf.prog 59 #[.pointer (some ⟨rb, 0, none⟩), .string (nameOf p), .int .i32 d] w fun e w' => e = .returned (.bool true) ∧ Below w.heap.size w w' := by
  have hP := party_any rb p L w h hp
  generalize nameOf p = s at *
  go_enter Ybaf.func59, Ybaf.ntmps59
  go_wp2_with (go_at_call 77; refine hP.mono ?_; rintro e w' ⟨rfl, hb⟩)
  go_ret
  exact ⟨rfl, hb.alloc hb.size _⟩
end Go.Proofs.YbulkcfwsFmt
