import Derived.Test.YbulkcfvqDoorInc
import Derived.Test.YbulkcfvqDoorShelf
namespace Go.Proofs.YbulkcfvqDoor
open Go.RowKit

/-! ### Plain: one more, on the digits from the last to the first -/
def incRev : List UInt8 → List UInt8
  | [] => [49]
  | c :: r => if c = 57 then 48 :: incRev r else (c + 1) :: r

theorem incRev_rep (q : Nat) (r : List UInt8) : incRev (List.replicate q 57 ++ r) = List.replicate q 48 ++ incRev r := by
  induction q with
  | zero => rfl
  | succ q ih =>
    rw [List.replicate_succ, List.cons_append]
    show (if (57 : UInt8) = 57 then 48 :: incRev (List.replicate q 57 ++ r) else _) = _
    rw [if_pos rfl, ih, List.replicate_succ, List.cons_append]

theorem decDigits_small {n : Nat} (h : n < 10) : Lib.decDigits n = [UInt8.ofNat (48 + n)] := by rw [Lib.decDigits, dif_pos h]
theorem decDigits_big {n : Nat} (h : ¬ n < 10) : Lib.decDigits n = Lib.decDigits (n / 10) ++ [UInt8.ofNat (48 + n % 10)] := by rw [Lib.decDigits, dif_neg h]

theorem digit_ne {k : Nat} (h : k < 9) : UInt8.ofNat (48 + k) ≠ 57 ∧ UInt8.ofNat (48 + k) + 1 = UInt8.ofNat (48 + (k + 1)) := by
  rcases (by omega : k = 0 ∨ k = 1 ∨ k = 2 ∨ k = 3 ∨ k = 4 ∨ k = 5 ∨ k = 6 ∨ k = 7 ∨ k = 8) with rfl | rfl | rfl | rfl | rfl | rfl | rfl | rfl | rfl <;> decide

theorem incRev_dec (n : Nat) : incRev (Lib.decDigits n).reverse = (Lib.decDigits (n + 1)).reverse := by
  induction n using Nat.strongRecOn with
  | ind n ih =>
    by_cases h : n < 10
    · rw [decDigits_small h]
      by_cases h9 : n = 9
      · subst h9
        rw [decDigits_big (by omega), decDigits_small (by omega)]
        decide
      · rw [decDigits_small (by omega)]
        obtain ⟨h1, h2⟩ := digit_ne (k := n) (by omega)
        show (if UInt8.ofNat (48 + n) = 57 then _ else (UInt8.ofNat (48 + n) + 1) :: []) = [UInt8.ofNat (48 + (n + 1))]
        rw [if_neg h1, h2]
    · rw [decDigits_big h, decDigits_big (n := n + 1) (by omega), List.reverse_append, List.reverse_append]
      by_cases h9 : n % 10 = 9
      · have e1 : (n + 1) / 10 = n / 10 + 1 := by omega
        have e2 : (n + 1) % 10 = 0 := by omega
        rw [h9, e1, e2, ← ih (n / 10) (by omega)]
        show (if UInt8.ofNat (48 + 9) = 57 then 48 :: incRev _ else _) = _
        rw [if_pos (by decide)]
        rfl
      · have e1 : (n + 1) / 10 = n / 10 := by omega
        have e2 : (n + 1) % 10 = n % 10 + 1 := by omega
        obtain ⟨h1, h2⟩ := digit_ne (k := n % 10) (by omega)
        rw [e1, e2]
        show (if UInt8.ofNat (48 + n % 10) = 57 then _ else (UInt8.ofNat (48 + n % 10) + 1) :: _) = _
        rw [if_neg h1, h2]
        rfl

theorem ba_ext {a b : ByteArray} (h : a.data.toList = b.data.toList) : a = b := by
  apply ByteArray.ext
  exact Array.toList_inj.1 h

theorem strF_list (n : Nat) (f : Nat → Int) : (strF n f).data.toList = (List.range n).map fun j => UInt8.ofNat (f j).toNat := by
  unfold strF
  rw [strOfNums_data, List.map_map]
  rfl

theorem rest57 {z : List UInt8} {k : Nat} (h : ∀ j, k ≤ j → j < z.length → z.getD j 0 = 57) : z.drop k = List.replicate (z.length - k) 57 := by
  rw [List.eq_replicate_iff]
  refine ⟨by simp, fun b hb => ?_⟩
  obtain ⟨i, hi, rfl⟩ := List.getElem_of_mem hb
  rw [List.getElem_drop]
  have hlen : k + i < z.length := by simpa [Nat.lt_sub_iff_add_lt'] using hi
  have := h (k + i) (by omega) hlen
  rw [List.getD, List.getElem?_eq_getElem hlen] at this
  exact this

theorem succ8 (c : UInt8) : UInt8.ofNat (((c.toNat : Int) + 1) % 256).toNat = c + 1 := by
  apply UInt8.toNat_inj.1
  have h := c.toNat_lt
  rw [UInt8.toNat_add]
  simp
  omega

theorem back8 (c : UInt8) : UInt8.ofNat ((c.toNat : Int)).toNat = c := by
  apply UInt8.toNat_inj.1
  have h := c.toNat_lt
  simp

theorem three (z : List UInt8) (m : Nat) (c : UInt8) (g : Nat → UInt8) (hm : m < z.length) (h1 : ∀ j, j < m → g j = z.getD j 0) (h2 : g m = c) (h3 : ∀ j, m < j → g j = 48) :
    (List.range z.length).map g = z.take m ++ c :: List.replicate (z.length - (m + 1)) 48 := by
  apply List.ext_getElem
  · simp; omega
  · intro j ha hb
    rw [List.getElem_map, List.getElem_range]
    have hj : j < z.length := by simpa using ha
    by_cases e1 : j < m
    · rw [List.getElem_append_left (by simp; omega), h1 j e1, List.getElem_take, List.getD, List.getElem?_eq_getElem hj]
      rfl
    · rw [List.getElem_append_right (by simp; omega)]
      by_cases e2 : j = m
      · subst e2
        rw [h2]
        simp [Nat.min_eq_left (Nat.le_of_lt hm)]
      · rw [h3 j (by omega)]
        have e3 : j - (z.take m).length = (j - m - 1) + 1 := by simp; omega
        simp only [e3, List.getElem_cons_succ, List.getElem_replicate]

/-- What incrementDigits answers, by the list. -/
theorem IncTo.list {s t : ByteArray} (h : IncTo s t) : t.data.toList = (incRev s.data.toList.reverse).reverse := by
  have hsz : s.size = s.data.toList.length := by simp
  rcases h with ⟨m, hm, hne, h57, x, hx, rfl⟩ | ⟨h57, rfl⟩
  · rw [strF_list]
    have q1 : ∀ j, j < m → UInt8.ofNat (fset (fk s (m + 1)) m x j).toNat = s.data.toList.getD j 0 := fun j hj => by
      unfold fset fk
      rw [if_neg (by omega), if_pos (by omega), back8]
      rfl
    have q2 : UInt8.ofNat (fset (fk s (m + 1)) m x m).toNat = s.data.toList.getD m 0 + 1 := by
      unfold fset
      rw [if_pos rfl, hx, succ8]
      rfl
    have q3 : ∀ j, m < j → UInt8.ofNat (fset (fk s (m + 1)) m x j).toNat = 48 := fun j hj => by
      unfold fset fk
      rw [if_neg (by omega), if_neg (by omega)]
      decide
    rw [hsz] at hm h57 ⊢
    unfold byteAt at h57 hne
    rw [three s.data.toList m _ (fun j => UInt8.ofNat (fset (fk s (m + 1)) m x j).toNat) hm q1 q2 q3]
    clear q1 q2 q3 hx hsz
    generalize s.data.toList = z at *
    have hd := rest57 (z := z) (k := m + 1) (fun j h1 h2 => h57 j (by omega) (by omega))
    have hz : z = z.take m ++ z.getD m 0 :: List.replicate (z.length - (m + 1)) 57 := by
      rw [← hd]
      rw [List.getD, List.getElem?_eq_getElem hm]
      show z = z.take m ++ z[m] :: z.drop (m + 1)
      rw [← List.drop_eq_getElem_cons hm, List.take_append_drop]
    have hr : incRev z.reverse = List.replicate (z.length - (m + 1)) 48 ++ (z.getD m 0 + 1) :: (z.take m).reverse := by
      conv => lhs; rw [hz]
      rw [List.reverse_append, List.reverse_cons, List.reverse_replicate, List.append_assoc, incRev_rep]
      congr 1
      show (if z.getD m 0 = 57 then _ else _) = _
      rw [if_neg hne]
      rfl
    rw [hr, List.reverse_append, List.reverse_cons, List.reverse_reverse, List.reverse_replicate, List.append_assoc]
    rfl
  · rw [ByteArray.data_append, Array.toList_append, strF_list]
    have q1 : ∀ j, UInt8.ofNat (fk s 0 j).toNat = 48 := fun j => by
      unfold fk
      rw [if_neg (by omega)]
      decide
    have q2 : (List.range s.size).map (fun j => UInt8.ofNat (fk s 0 j).toNat) = List.replicate s.size 48 := by
      rw [List.eq_replicate_iff]
      refine ⟨by simp, fun b hb => ?_⟩
      obtain ⟨j, -, rfl⟩ := List.mem_map.1 hb
      exact q1 j
    rw [q2, hsz]
    unfold byteAt at h57
    rw [hsz] at h57
    generalize s.data.toList = z at *
    have hd := rest57 (z := z) (k := 0) (fun j _ h2 => h57 j h2)
    rw [List.drop_zero, Nat.sub_zero] at hd
    have e := incRev_rep z.length []
    rw [List.append_nil] at e
    conv => rhs; rw [hd, List.reverse_replicate, e]
    rw [List.reverse_append, List.reverse_replicate]
    rfl

theorem IncTo.dec {n : Nat} {t : ByteArray} (h : IncTo (dec n) t) : t = YbulkcfvqDoor.dec (n + 1) := by
  apply ba_ext
  rw [h.list]
  show (incRev (Lib.decDigits n).reverse).reverse = Lib.decDigits (n + 1)
  rw [incRev_dec, List.reverse_reverse]

theorem dec_digits (n : Nat) : ∀ c ∈ Lib.decDigits n, dgB c = true := by
  induction n using Nat.strongRecOn with
  | ind n ih =>
    have h10 : ∀ k, k < 10 → dgB (UInt8.ofNat (48 + k)) = true := by
      intro k hk
      rcases (by omega : k = 0 ∨ k = 1 ∨ k = 2 ∨ k = 3 ∨ k = 4 ∨ k = 5 ∨ k = 6 ∨ k = 7 ∨ k = 8 ∨ k = 9) with rfl | rfl | rfl | rfl | rfl | rfl | rfl | rfl | rfl | rfl <;> decide
    by_cases h : n < 10
    · rw [decDigits_small h]
      intro c hc
      obtain rfl := List.mem_singleton.1 hc
      exact h10 n h
    · rw [decDigits_big h]
      intro c hc
      rcases List.mem_append.1 hc with hc | hc
      · exact ih (n / 10) (by omega) c hc
      · obtain rfl := List.mem_singleton.1 hc
        exact h10 _ (by omega)

theorem dec_pos (n : Nat) : Lib.decDigits n ≠ [] := by
  by_cases h : n < 10
  · rw [decDigits_small h]; simp
  · rw [decDigits_big h]; simp

theorem dec_len (n : Nat) (h : n ≤ 100000) : (dec n).size ≤ 6 := by
  have hl : ∀ k n, n < 10 ^ (k + 1) → (Lib.decDigits n).length ≤ k + 1 := by
    intro k
    induction k with
    | zero => intro n hn; rw [decDigits_small (by simpa using hn)]; simp
    | succ k ih =>
      intro n hn
      by_cases h : n < 10
      · rw [decDigits_small h]; simp
      · rw [decDigits_big h, List.length_append]
        have := ih (n / 10) (by rw [Nat.pow_succ] at hn; omega)
        simp
        exact this
  have := hl 5 n (by omega)
  show (Lib.decDigits n).toArray.size ≤ 6
  simpa using this

/-! ### The marker and the digits -/
theorem cut_app (a b : ByteArray) (l : List UInt8) (c : UInt8) (ha : a.data.toList = l ++ [c]) (hc : dgB c = false) (hb : ∀ d ∈ b.data.toList, dgB d = true) : ∀ j, j ≤ b.size → cut (a ++ b) (a.size + j) = a.size := by
  have hal : a.size = l.length + 1 := by
    have : a.data.toList.length = a.size := by simp
    rw [← this, ha]
    simp
  have hbl : b.data.toList.length = b.size := by simp
  have hd : (a ++ b).data.toList = a.data.toList ++ b.data.toList := by rw [ByteArray.data_append, Array.toList_append]
  intro j
  induction j with
  | zero =>
    intro _
    rw [Nat.add_zero, hal, cut_succ, hd, ha]
    have : ((l ++ [c]) ++ b.data.toList).getD l.length 0 = c := by simp [List.getD]
    rw [this, hc]
    rfl
  | succ j ih =>
    intro hj
    rw [← Nat.add_assoc, cut_succ, hd]
    have hlen : a.data.toList.length = a.size := by simp
    have hjb : j < b.data.toList.length := by omega
    have : (a.data.toList ++ b.data.toList).getD (a.size + j) 0 = b.data.toList[j] := by
      rw [List.getD, List.getElem?_append_right (by omega), hlen, Nat.add_sub_cancel_left, List.getElem?_eq_getElem hjb]
      rfl
    rw [this, hb _ (List.getElem_mem hjb)]
    exact ih (by omega)

theorem mark_app (a b : ByteArray) (l : List UInt8) (c : UInt8) (ha : a.data.toList = l ++ [c]) (hc : dgB c = false) (hb : ∀ d ∈ b.data.toList, dgB d = true) : mark (a ++ b) = a ∧ digs (a ++ b) = b := by
  have hk := cut_app a b l c ha hc hb b.size (Nat.le_refl _)
  have hs : (a ++ b).size = a.size + b.size := by rw [ByteArray.size_append]
  have hla : a.size = a.data.toList.length := by simp
  have hlb : b.size = b.data.toList.length := by simp
  unfold mark digs
  rw [hs, hk]
  constructor
  · apply ba_ext
    rw [ByteArray.data_extract, ByteArray.data_append, Array.toList_extract, List.extract_eq_take_drop, Array.toList_append, hla, List.drop_zero, Nat.sub_zero, List.take_left]
  · apply ba_ext
    rw [ByteArray.data_extract, ByteArray.data_append, Array.toList_extract, List.extract_eq_take_drop, Array.toList_append, hla, hlb, List.drop_left, Nat.add_sub_cancel_left, List.take_length]

/-- A marker: it ends in a byte that is no digit. -/
def Mk (a : ByteArray) : Prop := a.size ≤ 2 ∧ ∃ l c, a.data.toList = l ++ [c] ∧ dgB c = false

theorem NextTo.dec {a : ByteArray} (ha : Mk a) {n : Nat} {t : ByteArray} (h : NextTo (a ++ dec n) t) : t = a ++ YbulkcfvqDoor.dec (n + 1) := by
  obtain ⟨-, l, c, hl, hc⟩ := ha
  obtain ⟨h1, h2⟩ := mark_app a (YbulkcfvqDoor.dec n) l c hl hc (fun d hd => dec_digits n d hd)
  obtain ⟨u, hu, rfl⟩ := h
  rw [h2] at hu
  rw [h1, hu.dec]

theorem mk_at (j : Nat) (h : j < 3) : ∃ a, [Value.string { data := #[97] }, Value.string { data := #[98] }, Value.string { data := #[114, 99] }][j]? = some (.string a) ∧ Mk a := by
  rcases (by omega : j = 0 ∨ j = 1 ∨ j = 2) with rfl | rfl | rfl
  · exact ⟨_, rfl, by show 1 ≤ 2; omega, [], 97, rfl, by decide⟩
  · exact ⟨_, rfl, by show 1 ≤ 2; omega, [], 98, rfl, by decide⟩
  · exact ⟨_, rfl, by show 2 ≤ 2; omega, [114], 99, rfl, by decide⟩
end Go.Proofs.YbulkcfvqDoor
