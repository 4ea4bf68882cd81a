import Derived.Test.YbulkcfvqDoorLeaf
import Derived.Laws.BytesArg
namespace Go.Proofs.YbulkcfvqDoor
open Go.RowKit

/-- The j-th byte. -/
def byteAt (s : ByteArray) (j : Nat) : UInt8 := s.data.toList.getD j 0
/-- What the bytes are when those from k on have been turned to '0'. -/
def fk (s : ByteArray) (k j : Nat) : Int := if j < k then (byteAt s j).toNat else 48
/-- The same, with x at place m. -/
def fset (f : Nat → Int) (m : Nat) (x : Int) (j : Nat) : Int := if j = m then x else f j

/-- What is known of the memory while the digits are turned. -/
structure Row (B : Nat) (w0 w : World) (n : Nat) (f : Nat → Int) : Prop where
  cell : ∀ j, j < n → w.cell? ⟨B, j, none⟩ = some (.int .u8 (f j))
  frz : ∀ j, j < n → w.frozen? ⟨B, j, none⟩ = false
  bel : Below B w0 w

theorem Row.set {B n m : Nat} {w0 w : World} {f : Nat → Int} (h : Row B w0 w n f) (hm : m < n) (x : Int) : Row B w0 (w.setCell ⟨B, m, none⟩ (.int .u8 x)) n (fset f m x) := by
  refine ⟨fun j hj => ?_, fun j hj => ?_, h.bel.setCell (Nat.le_refl _) _⟩
  · unfold fset
    by_cases e : j = m
    · subst e
      rw [if_pos rfl]
      exact World.cell?_setCell_same _ _ _ (h.cell j hj)
    · rw [if_neg e, World.cell?_setCell_other _ _ _ _ (by intro h; cases h; exact e rfl)]
      exact h.cell j hj
  · rw [World.frozen?_setCell]
    exact h.frz j hj

theorem Row.congr {B n : Nat} {w0 w : World} {f g : Nat → Int} (h : Row B w0 w n f) (hg : ∀ j, j < n → f j = g j) : Row B w0 w n g :=
  ⟨fun j hj => by rw [← hg j hj]; exact h.cell j hj, h.frz, h.bel⟩

/-- The string that such bytes make. -/
def strF (n : Nat) (f : Nat → Int) : ByteArray := strOfNums ((List.range n).map f)

theorem strF_size (n : Nat) (f : Nat → Int) : (strF n f).size = n := by
  unfold strF
  rw [strOfNums_size]
  simp

theorem Row.back {B n cp : Nat} {w0 w : World} {f : Nat → Int} (h : Row B w0 w n f) : (convert 37 9 (.slice (some ⟨B, 0, none⟩) n cp)).run Ybad.prog w = .ok (.string (strF n f)) w :=
  run_convert_bytes_arg w 37 5 Ybad.underlying37 Ybad.underlying5 B 0 n cp ((List.range n).map f) (by simp) (fun i hi => by
    rw [Nat.zero_add, h.cell i hi]
    simp [List.getD, hi]) 9 Ybad.underlying9

theorem row_start (w : World) (s : ByteArray) : Row w.heap.size w (Lib.bytesWorld w 5 s) s.size (fk s s.size) := by
  refine ⟨fun j hj => ?_, fun j hj => ?_, ?_⟩
  · rw [Lib.bytesWorld_cell w 5 s j hj]
    simp [fk, hj, byteAt]
  · unfold World.frozen?
    rw [Lib.bytesWorld_at_new]
    simp [Lib.bytesCells]
    omega
  · exact ⟨rfl, rfl, rfl, by rw [Lib.bytesWorld_size]; omega, fun k hk => Lib.bytesWorld_at_old w 5 s k hk⟩

/-- "1" and what follows. -/
def one : ByteArray := { data := #[49] }

/-- What incrementDigits answers. -/
def IncTo (s t : ByteArray) : Prop :=
  (∃ m, m < s.size ∧ byteAt s m ≠ 57 ∧ (∀ j, m < j → j < s.size → byteAt s j = 57) ∧ ∃ x : Int, x = ((byteAt s m).toNat + 1) % 256 ∧ t = strF s.size (fset (fk s (m + 1)) m x)) ∨
  ((∀ j, j < s.size → byteAt s j = 57) ∧ t = one ++ strF s.size (fk s 0))

set_option maxHeartbeats 1000000 in
theorem inc_any (s : ByteArray) (w : World) (hs : s.size ≤ 4096) :
    Calls Ybad.prog 10 #[.string s] w fun en w' => (∃ t : ByteArray, en = .returned (.string t) ∧ IncTo s t) ∧ Below w.heap.size w w' := by
  have hcv := Lib.run_convert_string_bytes (P := Ybad.prog) w 9 37 5 s (u := .string) Ybad.underlying9 Ybad.underlying37 Ybad.underlying5
  have hr := row_start w s
  generalize Lib.bytesWorld w 5 s = w1 at *
  generalize grownCap w s.size 0 5 = cp at *
  have Hr : Hid (Row w.heap.size w w1 s.size (fk s s.size)) := hr
  clear hr
  go_enter Ybad.func10, Ybad.ntmps10
  go_wp2
  clear hcv
  go_loopw [4] (fun i wr => ∃ (x : Int) (k : Nat), k ≤ s.size ∧ i = .int .i64 x ∧ x + 1 = k ∧ Row w.heap.size w wr s.size (fk s k) ∧ (∀ j, k ≤ j → j < s.size → byteAt s j = 57)) (fun i _ => (intOf i + 1).toNat)
  case atStart => exact ⟨_, s.size, Nat.le_refl _, rfl, by omega, Hr.out, fun j h1 h2 => by omega⟩
  case round =>
    clear Hr
    obtain ⟨x, k, hk, rfl, hx, hrow, h57⟩ := hrel
    have Hrow : Hid (Row w.heap.size w wr s.size (fk s k)) := hrow
    have H57 : Hid (∀ j, k ≤ j → j < s.size → byteAt s j = 57) := h57
    clear hrow h57
    cases k with
    | zero =>
      obtain rfl : x = -1 := by omega
      clear hx hk
      have hb := Hrow.out.back (cp := cp)
      have hsz := strF_size s.size (fk s 0)
      generalize hT : strF s.size (fk s 0) = T at hb hsz
      have HT : Hid (strF s.size (fk s 0) = T) := hT
      clear hT
      go_wp2
      go_ret
      exact ⟨⟨_, rfl, .inr ⟨fun j hj => H57.out j (Nat.zero_le _) hj, by rw [HT.out]; rfl⟩⟩, Hrow.out.bel⟩
    | succ m =>
      obtain rfl : x = (m : Int) := by omega
      have hc := Hrow.out.cell m (by omega)
      have hf := Hrow.out.frz m (by omega)
      have ef : fk s (m + 1) m = (byteAt s m).toNat := by simp [fk]
      rw [ef] at hc
      clear ef hx
      have hb := fun v => (Hrow.out.set (m := m) (by omega) v).back (cp := cp)
      by_cases hz : byteAt s m = 57
      · rw [hz] at hc
        have hc' : wr.cell? ⟨w.heap.size, m, none⟩ = some (.int .u8 57) := hc
        have Hz : Hid (byteAt s m = 57) := hz
        clear hz hc hb
        have hrow' : Row w.heap.size w (wr.setCell ⟨w.heap.size, m, none⟩ (.int .u8 48)) s.size (fk s m) := (Hrow.out.set (by omega) 48).congr fun j hj => by
          unfold fset fk
          by_cases e : j = m
          · simp [e]
          · by_cases e2 : j < m
            · simp [e, e2, Nat.lt_succ_of_lt e2]
            · simp [e, e2, show ¬ j < m + 1 from by omega]
        have Hrow' : Hid (Row w.heap.size w (wr.setCell ⟨w.heap.size, m, none⟩ (.int .u8 48)) s.size (fk s m)) := hrow'
        clear hrow'
        go_wp2
        go_roundw
        case rel => exact ⟨_, m, by omega, rfl, by omega, Hrow'.out, fun j h1 h2 => by
          by_cases e : j = m
          · rw [e]; exact Hz.out
          · exact H57.out j (by omega) h2⟩
        case measure => simp [intOf]
      · have hne : (((byteAt s m).toNat : Int) != 57) = true := by
          rw [bne_iff_ne]
          intro h
          exact hz (UInt8.toNat_inj.1 (by show (byteAt s m).toNat = 57; omega))
        have Hz : Hid (byteAt s m ≠ 57) := hz
        clear hz
        have h0 : 0 ≤ ((byteAt s m).toNat : Int) := by omega
        have h1 : ((byteAt s m).toNat : Int) ≤ 255 := by have := (byteAt s m).toNat_lt; omega
        generalize hq : ((byteAt s m).toNat : Int) = c at *
        have Hq : Hid (((byteAt s m).toNat : Int) = c) := hq
        clear hq
        go_wp2
        go_ret
        exact ⟨⟨_, rfl, .inl ⟨m, by omega, Hz.out, fun j h1 h2 => H57.out j h1 h2, (c + 1) % 256, by rw [Hq.out], rfl⟩⟩, (Hrow.out.set (m := m) (by omega) _).bel⟩

theorem IncTo.size {s t : ByteArray} (h : IncTo s t) : t.size ≤ s.size + 1 := by
  rcases h with ⟨m, -, -, -, x, -, rfl⟩ | ⟨-, rfl⟩
  · rw [strF_size]; omega
  · rw [ByteArray.size_append, strF_size]
    show 1 + s.size ≤ _
    omega

/-- The marker, and the digits at the end. -/
def mark (s : ByteArray) : ByteArray := s.extract 0 (cut s s.size)
def digs (s : ByteArray) : ByteArray := s.extract (cut s s.size) s.size

/-- What nextPre answers. -/
def NextTo (s t : ByteArray) : Prop := ∃ u, IncTo (digs s) u ∧ t = mark s ++ u

theorem ext_size (s : ByteArray) (i j : Nat) (h : j ≤ s.size) : (s.extract i j).size ≤ s.size := by
  simp only [ByteArray.size_extract]
  omega

set_option maxHeartbeats 1000000 in
theorem nextPre_any (s : ByteArray) (w : World) (hs : s.size ≤ 4096) :
    Calls Ybad.prog 13 #[.string s] w fun en w' => (∃ t : ByteArray, en = .returned (.string t) ∧ NextTo s t) ∧ Below w.heap.size w w' := by
  have hS := splitMarker_any s w hs
  have h1 : (mark s).size ≤ 4096 := Nat.le_trans (ext_size _ _ _ (cut_le s s.size)) hs
  have h2 : (digs s).size ≤ 4096 := Nat.le_trans (ext_size _ _ _ (Nat.le_refl _)) hs
  change Calls Ybad.prog 15 #[.string s] w fun en w' => en = .returned (.tuple #[.string (mark s), .string (digs s)]) ∧ ∃ q, w' = w.drewN q at hS
  generalize ha : mark s = a at *
  generalize hb : digs s = b at *
  have Ha : Hid (mark s = a) := ha
  have Hb : Hid (digs s = b) := hb
  clear ha hb
  go_enter Ybad.func13, Ybad.ntmps13
  go_wp2_with fail
  refine hS.mono ?_
  rintro e w' ⟨rfl, q, rfl⟩
  clear hS
  go_wp2_with fail
  refine (inc_any b _ h2).mono ?_
  rintro e w1 ⟨⟨t, rfl, ht⟩, hbel⟩
  have hts := ht.size
  have Ht : Hid (IncTo b t) := ht
  have Hbel : Hid (Below w.heap.size (w.drewN q) w1) := hbel
  clear ht hbel
  go_wp2
  go_ret
  exact ⟨⟨_, rfl, t, by rw [Hb.out]; exact Ht.out, by rw [Ha.out]⟩, Below.trans (b := w.drewN q) ⟨rfl, rfl, rfl, Nat.le_refl _, fun _ _ => rfl⟩ Hbel.out⟩

theorem NextTo.size {s t : ByteArray} (h : NextTo s t) : t.size ≤ 2 * s.size + 1 := by
  obtain ⟨u, hu, rfl⟩ := h
  have h1 : (mark s).size ≤ s.size := ext_size _ _ _ (cut_le s s.size)
  have h2 : (digs s).size ≤ s.size := ext_size _ _ _ (Nat.le_refl _)
  have := hu.size
  rw [ByteArray.size_append]
  omega
end Go.Proofs.YbulkcfvqDoor
