/-
  strconv.Itoa at this program: the shelf's contract, laid in plain words by the kit's tool (lay-plain.mjs), and told by 'Below'.
-/
import Derived.Shelf.LaysM
import Derived.Shelf.Strconv.Itoa3
import Derived.Test.YbulkcfvqDoorRows
import Derived.WalkKit
import Derived.WalkSmall
namespace Go.Proofs
open Go.Shelf
def Ybad.laysM171_ren : Go.Shelf.Ren := ⟨fun | 171 => 4 | 243 => 7 | 246 => 14 | 283 => 16 | 284 => 17 | 285 => 18 | 286 => 19 | 129 => 22 | 317 => 21 | 318 => 23 | 319 => 24 | 320 => 25 | 337 => 26 | 338 => 27 | n => n, fun | 3 => 3 | 9 => 9 | 2 => 2 | 4 => 4 | 171 => 40 | 0 => 0 | 53 => 41 | 37 => 37 | 5 => 5 | 173 => 44 | 212 => 49 | 51 => 50 | 20 => 20 | 213 => 51 | 46 => 53 | 232 => 56 | 233 => 57 | n => n, fun | 17 => 0 | 18 => 1 | 19 => 2 | n => n⟩
theorem Ybad.laysM171 : Go.Proofs.LaysM.n171 Ybad.prog Ybad.laysM171_ren := {
  mixed := by kernel_rfl
  f129 := Ybad.func22.trans (congrArg some (by kernel_rfl))
  f171 := Ybad.func4.trans (congrArg some (by kernel_rfl))
  f243 := Ybad.func7.trans (congrArg some (by kernel_rfl))
  f246 := Ybad.func14.trans (congrArg some (by kernel_rfl))
  f283 := Ybad.func16.trans (congrArg some (by kernel_rfl))
  f284 := Ybad.func17.trans (congrArg some (by kernel_rfl))
  f285 := Ybad.func18.trans (congrArg some (by kernel_rfl))
  f286 := Ybad.func19.trans (congrArg some (by kernel_rfl))
  f317 := Ybad.func21.trans (congrArg some (by kernel_rfl))
  f318 := Ybad.func23.trans (congrArg some (by kernel_rfl))
  f319 := Ybad.func24.trans (congrArg some (by kernel_rfl))
  f320 := Ybad.func25.trans (congrArg some (by kernel_rfl))
  f337 := Ybad.func26.trans (congrArg some (by kernel_rfl))
  f338 := Ybad.func27.trans (congrArg some (by kernel_rfl))
  t0 := Ybad.underlying0
  a0 := Ybad.isAgg0
  z0 := Ybad.sizeOf0
  v0 := Ybad.zeroValue0
  t2 := Ybad.underlying2
  a2 := Ybad.isAgg2
  z2 := Ybad.sizeOf2
  v2 := Ybad.zeroValue2
  t3 := Ybad.underlying3
  a3 := Ybad.isAgg3
  z3 := Ybad.sizeOf3
  v3 := Ybad.zeroValue3
  t4 := Ybad.underlying4
  a4 := Ybad.isAgg4
  z4 := Ybad.sizeOf4
  v4 := Ybad.zeroValue4
  t5 := Ybad.underlying5
  a5 := Ybad.isAgg5
  z5 := Ybad.sizeOf5
  v5 := Ybad.zeroValue5
  t9 := Ybad.underlying9
  a9 := Ybad.isAgg9
  z9 := Ybad.sizeOf9
  v9 := Ybad.zeroValue9
  t20 := Ybad.underlying20
  a20 := Ybad.isAgg20
  z20 := Ybad.sizeOf20
  v20 := Ybad.zeroValue20
  t37 := Ybad.underlying37
  a37 := Ybad.isAgg37
  z37 := Ybad.sizeOf37
  v37 := Ybad.zeroValue37
  t46 := Ybad.underlying53
  a46 := Ybad.isAgg53
  z46 := Ybad.sizeOf53
  v46 := Ybad.zeroValue53
  t51 := Ybad.underlying50
  a51 := Ybad.isAgg50
  z51 := Ybad.sizeOf50
  v51 := Ybad.zeroValue50
  t53 := Ybad.underlying41
  a53 := Ybad.isAgg41
  z53 := Ybad.sizeOf41
  v53 := Ybad.zeroValue41
  t171 := Ybad.underlying40
  a171 := Ybad.isAgg40
  z171 := Ybad.sizeOf40
  v171 := Ybad.zeroValue40
  t173 := Ybad.underlying44
  a173 := Ybad.isAgg44
  z173 := Ybad.sizeOf44
  v173 := Ybad.zeroValue44
  t212 := Ybad.underlying49
  a212 := Ybad.isAgg49
  z212 := Ybad.sizeOf49
  v212 := Ybad.zeroValue49
  t213 := Ybad.underlying51
  a213 := Ybad.isAgg51
  z213 := Ybad.sizeOf51
  t232 := Ybad.underlying56
  a232 := Ybad.isAgg56
  z232 := Ybad.sizeOf56
  v232 := Ybad.zeroValue56
  t233 := Ybad.underlying57
  a233 := Ybad.isAgg57
  z233 := Ybad.sizeOf57
  v233 := Ybad.zeroValue57
  g17 := by kernel_rfl
  g18 := by kernel_rfl
  g19 := by kernel_rfl
  i0 := by kernel_rfl
  i2 := by kernel_rfl
  i3 := by kernel_rfl
  i4 := by kernel_rfl
  i5 := by kernel_rfl
  i9 := by kernel_rfl
  i20 := by kernel_rfl
  i37 := by kernel_rfl
  i46 := by kernel_rfl
  i51 := by kernel_rfl
  i53 := by kernel_rfl
  i171 := by kernel_rfl
  i173 := by kernel_rfl
  i212 := by kernel_rfl
  i232 := by kernel_rfl
  i233 := by kernel_rfl
  m17 := by kernel_rfl
  m18 := by kernel_rfl
  m19 := by kernel_rfl }
end Go.Proofs
namespace Go.Proofs.YbulkcfvqDoor
open Go.RowKit Go.Sort

/-- The table's name, as the row has it. -/
def tabName : String := Go.Proofs.YbulkcfvqDoor.Rows.lawS4098AProbesRow.named.headD ""
/-- The table of powers of ten reads as it should. -/
def Tab (w : World) : Prop := Lib.TabIs Ybad.prog w tabName .u64 Lib.pow10Tab

theorem Tab.below {w w' : World} (h : Tab w) (hb : Below w.heap.size w w') : Tab w' := by
  unfold Tab Lib.TabIs at h ⊢
  cases hg : Ybad.prog.globalNamed tabName with
  | none => simp [World.var?, hg] at h
  | some g =>
    have hlt : g < w.heap.size := by
      rcases Nat.lt_or_ge g w.heap.size with h1 | h1
      · exact h1
      · simp [World.var?, hg, Array.getElem?_eq_none h1] at h
    exact var?_below hb hg hlt h

/-- The numeral of n. -/
def dec (n : Nat) : ByteArray := ⟨(Lib.decDigits n).toArray⟩

theorem itoa_any (n : Nat) (hn : n ≤ 100000) (w : World) (h : Tab w) :
    Calls Ybad.prog 4 #[.int .i64 (n : Int)] w fun e w' => e = .returned (.string (dec n)) ∧ Below w.heap.size w w' := by
  have hc := Any.strconv_Itoa Ybad.laysM171 (n : Int) (by omega) (by omega) w h
  refine Calls.mono hc ?_
  rintro e w' ⟨rfl, k, os, rfl⟩
  refine ⟨?_, ⟨rfl, rfl, rfl, ?_, ?_⟩⟩
  · unfold dec Lib.itoa
    rw [if_neg (by omega), Int.toNat_natCast]
  · simp [grow]
  · intro i hi
    show (w.heap ++ os)[i]? = _
    rw [Array.getElem?_append_left hi]

set_option maxHeartbeats 400000 in
theorem plus_any (n : Nat) (hn : n ≤ 65535) (w : World) (h : Tab w) :
    Calls Ybad.prog 6 #[.int .u16 (n : Int)] w fun e w' => e = .returned (.string (dec (n + 1))) ∧ Below w.heap.size w w' := by
  have hI := itoa_any (n + 1) (by omega) w h
  have e1 : ((n + 1 : Nat) : Int) = (n : Int) + 1 := by omega
  rw [e1] at hI
  generalize dec (n + 1) = t at *
  clear e1 h
  go_enter Ybad.func6, Ybad.ntmps6
  go_wp2_with (go_at_call 4; refine hI.mono ?_; rintro e w' ⟨rfl, hb⟩)
  go_ret
  exact ⟨rfl, hb⟩
end Go.Proofs.YbulkcfvqDoor
