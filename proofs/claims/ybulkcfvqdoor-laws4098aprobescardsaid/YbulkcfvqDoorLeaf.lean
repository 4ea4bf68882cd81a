import Derived.Test.YbulkcfvqDoorRows
import Derived.WalkKit
import Derived.WalkSpells
import Derived.WalkLawsBesides
import Derived.Deep.QuietTactic
import Derived.BigQuiet
import Derived.Lib.Walk
import Derived.Lib.ConvBytes
import Derived.Lib.SliceRun
import Derived.Laws.IdiomStrings
namespace Go.Proofs.YbulkcfvqDoor
open Go.RowKit

set_option maxHeartbeats 400000 in
theorem base_any (e r p o d l : ByteArray) (w : World) :
    Calls Ybad.prog 8 #[.agg #[.string e, .string r, .string p, .string o, .string d, .string l]] w fun en w' =>
      en = .returned (.agg #[.string e, .string r, .string { data := #[] }, .string { data := #[] }, .string { data := #[] }, .string { data := #[] }]) ∧
      w' = (w.alloc (.cells #[.string e, .string r, .string p, .string o, .string d, .string l] 27)).alloc (.cells #[.string e, .string r, .string { data := #[] }, .string { data := #[] }, .string { data := #[] }, .string { data := #[] }] 27) := by
  go_enter Ybad.func8, Ybad.ntmps8
  go_wp2
  exact bodyPost_ret (v := .agg #[.string e, .string r, .string { data := #[] }, .string { data := #[] }, .string { data := #[] }, .string { data := #[] }]) (by simp [results, Ybad.results8, go_sem]) rfl ⟨rfl, rfl⟩

set_option maxHeartbeats 400000 in
theorem withDev_any (e r p o d l x : ByteArray) (w : World) :
    Calls Ybad.prog 9 #[.agg #[.string e, .string r, .string p, .string o, .string d, .string l], .string x] w fun en w' =>
      en = .returned (.agg #[.string e, .string r, .string p, .string o, .string x, .string l]) ∧
      w' = (w.alloc (.cells #[.string e, .string r, .string p, .string o, .string x, .string l] 27)).alloc (.cells #[.string e, .string r, .string p, .string o, .string x, .string l] 27) := by
  go_enter Ybad.func9, Ybad.ntmps9
  go_wp2
  exact bodyPost_ret (v := .agg #[.string e, .string r, .string p, .string o, .string x, .string l]) (by simp [results, Ybad.results9, go_sem]) rfl ⟨rfl, rfl⟩

set_option maxHeartbeats 400000 in
theorem withPost_any (e r p o d l x : ByteArray) (w : World) :
    Calls Ybad.prog 11 #[.agg #[.string e, .string r, .string p, .string o, .string d, .string l], .string x] w fun en w' =>
      en = .returned (.agg #[.string e, .string r, .string p, .string x, .string d, .string l]) ∧
      w' = (w.alloc (.cells #[.string e, .string r, .string p, .string x, .string d, .string l] 27)).alloc (.cells #[.string e, .string r, .string p, .string x, .string d, .string l] 27) := by
  go_enter Ybad.func11, Ybad.ntmps11
  go_wp2
  exact bodyPost_ret (v := .agg #[.string e, .string r, .string p, .string x, .string d, .string l]) (by simp [results, Ybad.results11, go_sem]) rfl ⟨rfl, rfl⟩

set_option maxHeartbeats 400000 in
theorem withPre_any (e r p o d l x : ByteArray) (w : World) :
    Calls Ybad.prog 12 #[.agg #[.string e, .string r, .string p, .string o, .string d, .string l], .string x] w fun en w' =>
      en = .returned (.agg #[.string e, .string r, .string x, .string o, .string d, .string l]) ∧
      w' = (w.alloc (.cells #[.string e, .string r, .string x, .string o, .string d, .string l] 27)).alloc (.cells #[.string e, .string r, .string x, .string o, .string d, .string l] 27) := by
  go_enter Ybad.func12, Ybad.ntmps12
  go_wp2
  exact bodyPost_ret (v := .agg #[.string e, .string r, .string x, .string o, .string d, .string l]) (by simp [results, Ybad.results12, go_sem]) rfl ⟨rfl, rfl⟩

/-- Is the byte a digit? -/
def dgB (c : UInt8) : Bool := decide (48 ≤ (c.toNat : Int)) && decide ((c.toNat : Int) ≤ 57)

set_option maxHeartbeats 400000 in
theorem isDigit_any (c : UInt8) (w : World) :
    Calls Ybad.prog 20 #[.int .u8 (c.toNat : Int)] w fun en w' => en = .returned (.bool (dgB c)) ∧ w' = w := by
  by_cases h1 : 48 ≤ (c.toNat : Int)
  · by_cases h2 : (c.toNat : Int) ≤ 57
    · have e : dgB c = true := by simp [dgB, h1, h2]
      rw [e]
      go_enter Ybad.func20, Ybad.ntmps20
      go_wp2
      go_ret
      exact ⟨rfl, rfl⟩
    · have e : dgB c = false := by simp [dgB, h2]
      rw [e]
      go_enter Ybad.func20, Ybad.ntmps20
      go_wp2
      go_ret
      exact ⟨rfl, rfl⟩
  · have e : dgB c = false := by simp [dgB, h1]
    rw [e]
    go_enter Ybad.func20, Ybad.ntmps20
    go_wp2
    go_ret
    exact ⟨rfl, rfl⟩

/-- Where the digits at the end begin: going down from k. -/
def cut (s : ByteArray) : Nat → Nat
  | 0 => 0
  | k + 1 => bif dgB (s.data.toList.getD k 0) then cut s k else k + 1

theorem cut_succ (s : ByteArray) (k : Nat) : cut s (k + 1) = bif dgB (s.data.toList.getD k 0) then cut s k else k + 1 := rfl

theorem rtup {a b c d : ByteArray} (h : a = c) (h' : b = d) : Ending.returned (.tuple #[.string a, .string b]) = .returned (.tuple #[.string c, .string d]) := by rw [h, h']

theorem cut_le (s : ByteArray) : ∀ k, cut s k ≤ k
  | 0 => Nat.le_refl _
  | k + 1 => by
    unfold cut
    cases dgB (s.data.toList.getD k 0)
    · simp
    · have := cut_le s k
      simp
      omega

theorem byte_getD (s : ByteArray) (k : Nat) (h : k < s.size) : s.data.toList.getD k 0 = s[k] := by
  have h' : k < s.data.toList.length := by simpa using h
  rw [List.getD, List.getElem?_eq_getElem h']
  rfl

set_option maxHeartbeats 1000000 in
theorem splitMarker_any (s : ByteArray) (w : World) (hs : s.size ≤ 4096) :
    Calls Ybad.prog 15 #[.string s] w fun en w' => en = .returned (.tuple #[.string (s.extract 0 (cut s s.size)), .string (s.extract (cut s s.size) s.size)]) ∧ ∃ q, w' = w.drewN q := by
  go_enter Ybad.func15, Ybad.ntmps15
  go_wp2
  go_loop [4] (fun i => ∃ k : Nat, k ≤ s.size ∧ i = .int .i64 k ∧ cut s k = cut s s.size) (fun i => (intOf i).toNat)
  case atStart => exact ⟨s.size, Nat.le_refl _, rfl, rfl⟩
  case round =>
    obtain ⟨k, hk, rfl, hcut⟩ := hrel
    have H : Hid (cut s k = cut s s.size) := hcut
    clear hcut
    cases k with
    | zero =>
      have Hc : Hid (0 = cut s s.size) := H.out
      go_wp2_with fail
      go_quiet (fail)
      go_wp2
      go_ret2
      exact ⟨rtup (by rw [← Hc.out]; simp) (by rw [← Hc.out]; simp), _, rfl⟩
    | succ k =>
      have hlt : k < s.size := by omega
      have hI := isDigit_any s[k] w
      have hz : s.data.toList.getD k 0 = s[k] := byte_getD s k hlt
      cases hd : dgB s[k]
      · have Hc : Hid (k + 1 = cut s s.size) := by
          have h := H.out
          rw [cut_succ, hz, hd] at h
          exact h
        rw [hd] at hI
        clear hd hz
        go_wp2_with (go_at_call 20; refine hI.mono ?_; rintro e w' ⟨rfl, rfl⟩)
        go_quiet (fail)
        go_wp2
        go_ret2
        exact ⟨rtup (by rw [← Hc.out]) (by rw [← Hc.out]), _, rfl⟩
      · have Hc : Hid (cut s k = cut s s.size) := by
          have h := H.out
          rw [cut_succ, hz, hd] at h
          exact h
        rw [hd] at hI
        clear hd hz
        go_wp2_with (go_at_call 20; refine hI.mono ?_; rintro e w' ⟨rfl, rfl⟩)
        go_round
        case rel => exact ⟨k, by omega, rfl, Hc.out⟩
        case measure => simp [intOf]
end Go.Proofs.YbulkcfvqDoor
