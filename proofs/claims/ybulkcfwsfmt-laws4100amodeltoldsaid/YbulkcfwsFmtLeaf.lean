import Derived.Test.YbulkcfwsFmtRows
import Derived.WalkKit
import Derived.WalkSpells
import Derived.WalkLawsBesides
import Derived.Deep.QuietTactic
import Derived.BigQuiet
import Derived.Lib.Walk
import Derived.Lib.ConvBytes
import Derived.Lib.SliceRun
import Derived.Laws.IdiomStrings
namespace Go.Proofs.YbulkcfwsFmt
open Go.RowKit

def nameOf : Nat → ByteArray
  | 0 => ⟨#[99, 111, 109, 112, 97, 110, 121]⟩
  | 1 => ⟨#[97]⟩
  | 2 => ⟨#[98]⟩
  | 3 => ⟨#[99]⟩
  | 4 => ⟨#[100]⟩
  | 5 => ⟨#[101]⟩
  | _ => ⟨#[122, 122]⟩
def typeOf : Nat → ByteArray
  | 0 => ⟨#[111, 102, 102, 105, 99, 101, 114]⟩
  | 1 => ⟨#[99, 111, 110, 116, 114, 111, 108]⟩
  | 2 => ⟨#[102, 97, 109, 105, 108, 121]⟩
  | _ => ⟨#[104, 111, 108, 100, 105, 110, 103]⟩
def roleOf : Nat → ByteArray
  | 0 => ⟨#[99, 104, 97, 105, 114, 109, 97, 110]⟩
  | 1 => ⟨#[100, 105, 114, 101, 99, 116, 111, 114]⟩
  | 2 => ⟨#[105, 110, 100, 101, 112, 101, 110, 100, 101, 110, 116, 45, 100, 105, 114, 101, 99, 116, 111, 114]⟩
  | 3 => ⟨#[115, 117, 112, 101, 114, 118, 105, 115, 111, 114]⟩
  | _ => ⟨#[]⟩
def tieOf : Nat → ByteArray
  | 0 => ⟨#[115, 112, 111, 117, 115, 101]⟩
  | 1 => ⟨#[115, 105, 98, 108, 105, 110, 103]⟩
  | 2 => ⟨#[112, 97, 114, 101, 110, 116]⟩
  | _ => ⟨#[99, 111, 117, 115, 105, 110]⟩
def stepOf : Nat → ByteArray
  | 0 => ⟨#[115, 112, 111, 117, 115, 101]⟩
  | 1 => ⟨#[112, 97, 114, 101, 110, 116]⟩
  | 2 => ⟨#[99, 104, 105, 108, 100]⟩
  | 3 => ⟨#[97, 100, 117, 108, 116, 45, 99, 104, 105, 108, 100]⟩
  | _ => ⟨#[115, 105, 98, 108, 105, 110, 103]⟩
def startOf : Nat → Int
  | 0 => 0
  | 1 => 20200101
  | 2 => 20210101
  | _ => 20220101
def endOf : Nat → Int
  | 0 => 0
  | 1 => 20201231
  | 2 => 20211231
  | _ => 20221231
def dayOf : Nat → Int
  | 0 => 20200601
  | 1 => 20210601
  | 2 => 20220601
  | _ => 20230601
theorem lt4 {i : Nat} (h : i < 4) : i = 0 ∨ i = 1 ∨ i = 2 ∨ i = 3 := by omega
theorem lt5 {i : Nat} (h : i < 5) : i = 0 ∨ i = 1 ∨ i = 2 ∨ i = 3 ∨ i = 4 := by omega
theorem lt7 {i : Nat} (h : i < 7) : i = 0 ∨ i = 1 ∨ i = 2 ∨ i = 3 ∨ i = 4 ∨ i = 5 ∨ i = 6 := by omega

set_option maxHeartbeats 4000000 in
theorem name_any (i : Nat) (h : i < 7) (w : World) :
    Calls Ybaf.prog 10 #[.int .i64 i] w fun e w' => e = .returned (.string (nameOf i)) ∧ w' = w := by
  rcases lt7 h with rfl | rfl | rfl | rfl | rfl | rfl | rfl <;>
    (go_enter Ybaf.func10, Ybaf.ntmps10
     go_wp2
     go_ret
     exact ⟨rfl, rfl⟩)

set_option maxHeartbeats 4000000 in
theorem type_any (i : Nat) (h : i < 4) (w : World) :
    Calls Ybaf.prog 9 #[.int .i64 i] w fun e w' => e = .returned (.string (typeOf i)) ∧ w' = w := by
  rcases lt4 h with rfl | rfl | rfl | rfl <;>
    (go_enter Ybaf.func9, Ybaf.ntmps9
     go_wp2
     go_ret
     exact ⟨rfl, rfl⟩)

set_option maxHeartbeats 4000000 in
theorem role_any (i : Nat) (h : i < 5) (w : World) :
    Calls Ybaf.prog 11 #[.int .i64 i] w fun e w' => e = .returned (.string (roleOf i)) ∧ w' = w := by
  rcases lt5 h with rfl | rfl | rfl | rfl | rfl <;>
    (go_enter Ybaf.func11, Ybaf.ntmps11
     go_wp2
     go_ret
     exact ⟨rfl, rfl⟩)

set_option maxHeartbeats 4000000 in
theorem tie_any (i : Nat) (h : i < 4) (w : World) :
    Calls Ybaf.prog 12 #[.int .i64 i] w fun e w' => e = .returned (.string (tieOf i)) ∧ w' = w := by
  rcases lt4 h with rfl | rfl | rfl | rfl <;>
    (go_enter Ybaf.func12, Ybaf.ntmps12
     go_wp2
     go_ret
     exact ⟨rfl, rfl⟩)

set_option maxHeartbeats 4000000 in
theorem step_any (i : Nat) (h : i < 5) (w : World) :
    Calls Ybaf.prog 14 #[.int .i64 i] w fun e w' => e = .returned (.string (stepOf i)) ∧ w' = w := by
  rcases lt5 h with rfl | rfl | rfl | rfl | rfl <;>
    (go_enter Ybaf.func14, Ybaf.ntmps14
     go_wp2
     go_ret
     exact ⟨rfl, rfl⟩)

set_option maxHeartbeats 4000000 in
theorem start_any (i : Nat) (h : i < 4) (w : World) :
    Calls Ybaf.prog 6 #[.int .i64 i] w fun e w' => e = .returned (.int .i32 (startOf i)) ∧ w' = w := by
  rcases lt4 h with rfl | rfl | rfl | rfl <;>
    (go_enter Ybaf.func6, Ybaf.ntmps6
     go_wp2
     go_ret
     exact ⟨rfl, rfl⟩)

set_option maxHeartbeats 4000000 in
theorem end_any (i : Nat) (h : i < 4) (w : World) :
    Calls Ybaf.prog 7 #[.int .i64 i] w fun e w' => e = .returned (.int .i32 (endOf i)) ∧ w' = w := by
  rcases lt4 h with rfl | rfl | rfl | rfl <;>
    (go_enter Ybaf.func7, Ybaf.ntmps7
     go_wp2
     go_ret
     exact ⟨rfl, rfl⟩)

set_option maxHeartbeats 4000000 in
theorem day_any (i : Nat) (h : i < 4) (w : World) :
    Calls Ybaf.prog 5 #[.int .i64 i] w fun e w' => e = .returned (.int .i32 (dayOf i)) ∧ w' = w := by
  rcases lt4 h with rfl | rfl | rfl | rfl <;>
    (go_enter Ybaf.func5, Ybaf.ntmps5
     go_wp2
     go_ret
     exact ⟨rfl, rfl⟩)

/-- tie t makes step s (rev: the other way). -/
def isB (t s : Nat) (rev : Bool) : Bool :=
  match t with
  | 0 => s == 0
  | 1 => s == 4
  | 2 => if rev then s == 2 || s == 3 else s == 1
  | _ => false

set_option maxHeartbeats 4000000 in
theorem isstep_any (t s : Nat) (rev : Bool) (ht : t < 4) (hs : s < 5) (w : World) :
    Calls Ybaf.prog 18 #[.int .i64 t, .int .i64 s, .bool rev] w fun e w' => e = .returned (.bool (isB t s rev)) ∧ w' = w := by
  rcases lt4 ht with rfl | rfl | rfl | rfl <;> rcases lt5 hs with rfl | rfl | rfl | rfl | rfl <;> cases rev <;>
    (go_enter Ybaf.func18, Ybaf.ntmps18
     go_wp2
     go_ret
     exact ⟨rfl, rfl⟩)

/-- The same, of strings. -/
def isS (t s : ByteArray) (rev : Bool) : Bool :=
  if (t.toList == (ByteArray.mk #[115, 112, 111, 117, 115, 101]).toList) = true then s.toList == (ByteArray.mk #[115, 112, 111, 117, 115, 101]).toList
  else if (t.toList == (ByteArray.mk #[115, 105, 98, 108, 105, 110, 103]).toList) = true then s.toList == (ByteArray.mk #[115, 105, 98, 108, 105, 110, 103]).toList
  else if (t.toList == (ByteArray.mk #[112, 97, 114, 101, 110, 116]).toList) = true then
    (if rev = true then (s.toList == (ByteArray.mk #[99, 104, 105, 108, 100]).toList || s.toList == (ByteArray.mk #[97, 100, 117, 108, 116, 45, 99, 104, 105, 108, 100]).toList) else s.toList == (ByteArray.mk #[112, 97, 114, 101, 110, 116]).toList)
  else false

theorem isS_eq (t s : Nat) (rev : Bool) (ht : t < 4) (hs : s < 5) : isS (tieOf t) (stepOf s) rev = isB t s rev := by
  rcases lt4 ht with rfl | rfl | rfl | rfl <;> rcases lt5 hs with rfl | rfl | rfl | rfl | rfl <;> cases rev <;> decide +kernel

set_option maxHeartbeats 4000000 in
theorem isStep_any' (t s : ByteArray) (rev : Bool) (w : World) :
    Calls Ybaf.prog 60 #[.string t, .string s, .bool rev] w fun e w' => e = .returned (.bool (isS t s rev)) ∧ w' = w := by
  go_enter Ybaf.func60, Ybaf.ntmps60
  cases rev
  all_goals (go_wp2; all_goals (go_ret; refine ⟨?_, rfl⟩; simp only [isS]; simp [*]))

theorem isStep_any (t s : Nat) (rev : Bool) (ht : t < 4) (hs : s < 5) (w : World) :
    Calls Ybaf.prog 60 #[.string (tieOf t), .string (stepOf s), .bool rev] w fun e w' => e = .returned (.bool (isB t s rev)) ∧ w' = w := by
  rw [← isS_eq t s rev ht hs]
  exact isStep_any' _ _ _ w

/-- A relation, by the law's own numbers. -/
structure Rel where
  ty : Nat
  fr : Nat
  to : Nat
  ro : Nat
  ti : Nat
  st : Int
  en : Int

def Rel.ok (x : Rel) : Prop := x.ty < 4 ∧ x.fr < 6 ∧ x.to < 6 ∧ x.ro < 5 ∧ x.ti < 4

/-- It holds on day d. -/
def Rel.on (x : Rel) (d : Int) : Bool := decide (x.st ≤ d) && (decide (x.en = 0) || decide (d ≤ x.en))

def idOf (i : Nat) : ByteArray := ⟨#[114, UInt8.ofNat (97 + i / 26), UInt8.ofNat (97 + i % 26)]⟩

/-- The ten cells of relation number i. -/
def relCells (i : Nat) (x : Rel) : List Value :=
  [.string (idOf i), .string (typeOf x.ty), .string (nameOf x.fr), .string (nameOf x.to), .int .i32 x.st, .int .i32 x.en, .string (roleOf x.ro), .int .i64 0, .pointer none, .string (tieOf x.ti)]

def relV (i : Nat) (x : Rel) : Value :=
  .agg #[.string (idOf i), .string (typeOf x.ty), .string (nameOf x.fr), .string (nameOf x.to), .int .i32 x.st, .int .i32 x.en, .string (roleOf x.ro), .int .i64 0, .pointer none, .string (tieOf x.ti)]

set_option maxHeartbeats 4000000 in
theorem holdsOn_any (i : Nat) (x : Rel) (d : Int) (w : World) :
    Calls Ybaf.prog 24 #[relV i x, .int .i32 d] w fun e w' => e = .returned (.bool (x.on d)) ∧ Below w.heap.size w w' := by
  unfold relV
  generalize idOf i = s0
  generalize typeOf x.ty = s1
  generalize nameOf x.fr = s2
  generalize nameOf x.to = s3
  generalize roleOf x.ro = s6
  generalize tieOf x.ti = s9
  obtain ⟨_, _, _, _, _, st, en⟩ := x
  simp only [Rel.on]
  go_enter Ybaf.func24, Ybaf.ntmps24
  go_wp2
  all_goals (go_ret; refine ⟨?_, (Below.refl _ w).alloc (Nat.le_refl _) _⟩; simp [*] <;> omega)

theorem lt32 {i : Nat} (h : i < 32) : i = 0 ∨ i = 1 ∨ i = 2 ∨ i = 3 ∨ i = 4 ∨ i = 5 ∨ i = 6 ∨ i = 7 ∨ i = 8 ∨ i = 9 ∨ i = 10 ∨ i = 11 ∨ i = 12 ∨ i = 13 ∨ i = 14 ∨ i = 15 ∨ i = 16 ∨ i = 17 ∨ i = 18 ∨ i = 19 ∨ i = 20 ∨ i = 21 ∨ i = 22 ∨ i = 23 ∨ i = 24 ∨ i = 25 ∨ i = 26 ∨ i = 27 ∨ i = 28 ∨ i = 29 ∨ i = 30 ∨ i = 31 := by omega

theorem conv3 (w : World) (x y : Int) : (convert 23 9 (.slice (some ⟨w.heap.size, 0, none⟩) (3 : Nat) 3)).run Ybaf.prog (w.alloc (.cells #[.int .u8 114, .int .u8 x, .int .u8 y] 5)) = .ok (.string (strOfNums [114, x, y])) (w.alloc (.cells #[.int .u8 114, .int .u8 x, .int .u8 y] 5)) :=
  run_convert_bytes_arg _ 23 5 Ybaf.underlying23 Ybaf.underlying5 w.heap.size 0 3 3 [114, x, y] rfl (fun i hi => by
    obtain rfl | rfl | rfl : i = 0 ∨ i = 1 ∨ i = 2 := by omega
    all_goals (unfold World.cell? World.alloc; simp [-World.alloc_eq])) 9 Ybaf.underlying9

set_option maxRecDepth 100000 in
set_option maxHeartbeats 4000000 in
theorem id_any (i : Nat) (h : i < 32) (w : World) :
    Calls Ybaf.prog 8 #[.int .i64 i] w fun e w' => e = .returned (.string (idOf i)) ∧ Below w.heap.size w w' := by
  have hcv := conv3 w
  rcases lt32 h with rfl | rfl | rfl | rfl | rfl | rfl | rfl | rfl | rfl | rfl | rfl | rfl | rfl | rfl | rfl | rfl | rfl | rfl | rfl | rfl | rfl | rfl | rfl | rfl | rfl | rfl | rfl | rfl | rfl | rfl | rfl | rfl <;>
    (go_enter Ybaf.func8, Ybaf.ntmps8
     go_wp2
     go_ret
     exact ⟨rfl, (Below.refl _ w).alloc (Nat.le_refl _) _⟩)
end Go.Proofs.YbulkcfwsFmt
