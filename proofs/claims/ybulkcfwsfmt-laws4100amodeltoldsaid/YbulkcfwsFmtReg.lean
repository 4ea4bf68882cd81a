import Derived.Test.YbulkcfwsFmtHeld
namespace Go.Proofs.YbulkcfwsFmt
open Go.RowKit

def r0 : Rel := ⟨0, 0, 0, 0, 0, 0, 0⟩

/-- The cells of n elements, one behind the other. -/
def flat (n : Nat) (f : Nat → List Value) : List Value := (List.range n).flatMap f

theorem flat_succ (n : Nat) (f : Nat → List Value) : flat (n + 1) f = flat n f ++ f n := by
  simp [flat, List.range_succ, List.flatMap_append]

theorem flat_length {m n : Nat} {f : Nat → List Value} (h : ∀ i, i < n → (f i).length = m) : (flat n f).length = n * m := by
  induction n with
  | zero => simp [flat]
  | succ n ih =>
    rw [flat_succ, List.length_append, ih (fun i hi => h i (by omega)), h n (by omega), Nat.succ_mul]

theorem flat_get {m n : Nat} {f : Nat → List Value} (h : ∀ i, i < n → (f i).length = m) {i j : Nat} (hi : i < n) (hj : j < m) : (flat n f)[i * m + j]? = (f i)[j]? := by
  induction n with
  | zero => omega
  | succ n ih =>
    rw [flat_succ]
    have hl : (flat n f).length = n * m := flat_length (fun i hi => h i (by omega))
    by_cases e : i < n
    · have : i * m + m ≤ n * m := by rw [← Nat.succ_mul]; exact Nat.mul_le_mul_right _ e
      rw [List.getElem?_append_left (by omega)]
      exact ih (fun i hi => h i (by omega)) e
    · obtain rfl : i = n := by omega
      rw [List.getElem?_append_right (by omega), hl]
      congr 1
      omega

theorem flat_congr {n : Nat} {f g : Nat → List Value} (h : ∀ i, i < n → f i = g i) : flat n f = flat n g := by
  induction n with
  | zero => rfl
  | succ n ih => rw [flat_succ, flat_succ, ih (fun i hi => h i (by omega)), h n (by omega)]

/-- The relations from party p, by number; to it. -/
def fromIdx (L : List Rel) (p : Nat) : List Nat := (List.range L.length).filter fun i => (L.getD i r0).fr == p
def toIdx (L : List Rel) (p : Nat) : List Nat := (List.range L.length).filter fun i => (L.getD i r0).to == p

def ofNats (xs : List Nat) : List Int := xs.map Int.ofNat

theorem zero27 (w : World) : (zeroValue 27).run Ybaf.prog w = .ok (.slice none (0 : Nat) 0) w := by kernel_rfl
theorem zero3 (w : World) : (zeroValue 3).run Ybaf.prog w = .ok (.int .i64 0) w := by kernel_rfl

/-- A register at block rb with the relations L, all of it in blocks that 'ok' allows. -/
structure Reg (ok : Nat → Prop) (w : World) (rb : Nat) (L : List Rel) : Prop where
  okr : ok rb
  ltr : rb < w.heap.size
  len : L.length ≤ 32
  good : ∀ i, i < L.length → (L.getD i r0).ok
  c0 : w.cell? ⟨rb, 0, none⟩ = some (.slice none (0 : Nat) 0)
  c1 : ∃ b n, w.cell? ⟨rb, 1, none⟩ = some (.map (some b)) ∧ ok b ∧ MapIs nameOf 7 w b n (.int .i64 0) (fun _ => .int .i64 0) (fun _ => false)
  c2 : ∃ v, w.cell? ⟨rb, 2, none⟩ = some v ∧ Row ok w v L.length 10 (flat L.length fun i => relCells i (L.getD i r0))
  c4 : ∃ b n F S, w.cell? ⟨rb, 4, none⟩ = some (.map (some b)) ∧ ok b ∧ MapIs nameOf 7 w b n (.slice none (0 : Nat) 0) F S ∧ ∀ p, p < 7 → Ints ok w (F p) (ofNats (fromIdx L p))
  c5 : ∃ b n F S, w.cell? ⟨rb, 5, none⟩ = some (.map (some b)) ∧ ok b ∧ MapIs nameOf 7 w b n (.slice none (0 : Nat) 0) F S ∧ ∀ p, p < 7 → Ints ok w (F p) (ofNats (toIdx L p))

theorem Reg.keep {ok ok' : Nat → Prop} {w w' : World} {rb : Nat} {L : List Rel} (h : Reg ok w rb L)
    (hk : ∀ b, ok b → b < w.heap.size → w'.heap[b]? = w.heap[b]? ∧ ok' b) (hs : w.heap.size ≤ w'.heap.size) : Reg ok' w' rb L := by
  obtain ⟨e, okr'⟩ := hk rb h.okr h.ltr
  refine ⟨okr', Nat.lt_of_lt_of_le h.ltr hs, h.len, h.good, ?_, ?_, ?_, ?_, ?_⟩
  · rw [cell_of_heap e]; exact h.c0
  · obtain ⟨b, n, hc, hb, hm⟩ := h.c1
    obtain ⟨e1, ok1⟩ := hk b hb hm.lt
    exact ⟨b, n, by rw [cell_of_heap e]; exact hc, ok1, hm.heap e1⟩
  · obtain ⟨v, hc, hr⟩ := h.c2
    exact ⟨v, by rw [cell_of_heap e]; exact hc, hr.keep hk hs⟩
  · obtain ⟨b, n, F, S, hc, hb, hm, hF⟩ := h.c4
    obtain ⟨e1, ok1⟩ := hk b hb hm.lt
    exact ⟨b, n, F, S, by rw [cell_of_heap e]; exact hc, ok1, hm.heap e1, fun p hp => (hF p hp).keep hk hs⟩
  · obtain ⟨b, n, F, S, hc, hb, hm, hF⟩ := h.c5
    obtain ⟨e1, ok1⟩ := hk b hb hm.lt
    exact ⟨b, n, F, S, by rw [cell_of_heap e]; exact hc, ok1, hm.heap e1, fun p hp => (hF p hp).keep hk hs⟩

theorem Reg.below {B : Nat} {w w' : World} {rb : Nat} {L : List Rel} (h : Reg (· < B) w rb L) (hb : Below B w w') : Reg (· < B) w' rb L :=
  h.keep (fun b hok _ => ⟨hb.block b hok, hok⟩) hb.size

theorem nameOf_size (p : Nat) : (nameOf p).size ≤ maxLen := by
  unfold nameOf maxLen
  split <;> decide

theorem ofNats_lt {xs : List Nat} {n : Nat} (h : ∀ i ∈ xs, i < n) : ∀ x ∈ ofNats xs, x < (n : Int) := by
  intro x hx
  obtain ⟨i, hi, rfl⟩ := List.mem_map.1 hx
  have := h i hi
  exact Int.ofNat_lt.2 this

theorem fromIdx_lt (L : List Rel) (p : Nat) : ∀ i ∈ fromIdx L p, i < L.length := by
  intro i hi
  exact List.mem_range.1 (List.mem_filter.1 hi).1

theorem toIdx_lt (L : List Rel) (p : Nat) : ∀ i ∈ toIdx L p, i < L.length := by
  intro i hi
  exact List.mem_range.1 (List.mem_filter.1 hi).1

theorem fromIdx_len (L : List Rel) (p : Nat) : (fromIdx L p).length ≤ L.length := by
  have := List.length_filter_le (fun i => (L.getD i r0).fr == p) (List.range L.length)
  simpa [fromIdx] using this

theorem toIdx_len (L : List Rel) (p : Nat) : (toIdx L p).length ≤ L.length := by
  have := List.length_filter_le (fun i => (L.getD i r0).to == p) (List.range L.length)
  simpa [toIdx] using this

set_option maxHeartbeats 1000000 in
theorem from_any {ok : Nat → Prop} (rb p : Nat) (L : List Rel) (w : World) (h : Reg ok w rb L) (hp : p < 7) :
    Calls Ybaf.prog 38 #[.pointer (some ⟨rb, 0, none⟩), .string (nameOf p)] w fun e w' => (∃ v', e = .returned v' ∧ Ints ok w v' (ofNats (fromIdx L p))) ∧ w' = w := by
  obtain ⟨b, n, F, S, hc, hb, hm, hF⟩ := h.c4
  obtain ⟨v, hc2, hr⟩ := h.c2
  obtain ⟨ra, rcap, rfl⟩ := hr.form
  have hrun := hm.look Ybaf.underlying70 (zero27 w) hp (nameOf_size p)
  have hh := held_any rb L.length rcap ra (F p) (ofNats (fromIdx L p)) w (hF p hp) (by have := fromIdx_len L p; have := h.len; simp [ofNats]; omega) (ofNats_lt (fromIdx_lt L p)) hc2
  generalize ofNats (fromIdx L p) = xs at *
  generalize nameOf p = s at *
  generalize F p = v at *
  clear hm hF hr
  go_enter Ybaf.func38, Ybaf.ntmps38
  go_wp2_with (go_at_call 34; refine hh.mono ?_; rintro e w' ⟨⟨v', rfl, hI⟩, rfl⟩)
  go_ret
  exact ⟨⟨_, rfl, hI⟩, rfl⟩

set_option maxHeartbeats 1000000 in
theorem to_any {ok : Nat → Prop} (rb p : Nat) (L : List Rel) (w : World) (h : Reg ok w rb L) (hp : p < 7) :
    Calls Ybaf.prog 23 #[.pointer (some ⟨rb, 0, none⟩), .string (nameOf p)] w fun e w' => (∃ v', e = .returned v' ∧ Ints ok w v' (ofNats (toIdx L p))) ∧ w' = w := by
  obtain ⟨b, n, F, S, hc, hb, hm, hF⟩ := h.c5
  obtain ⟨v, hc2, hr⟩ := h.c2
  obtain ⟨ra, rcap, rfl⟩ := hr.form
  have hrun := hm.look Ybaf.underlying70 (zero27 w) hp (nameOf_size p)
  have hh := held_any rb L.length rcap ra (F p) (ofNats (toIdx L p)) w (hF p hp) (by have := toIdx_len L p; have := h.len; simp [ofNats]; omega) (ofNats_lt (toIdx_lt L p)) hc2
  generalize ofNats (toIdx L p) = xs at *
  generalize nameOf p = s at *
  generalize F p = v at *
  clear hm hF hr
  go_enter Ybaf.func23, Ybaf.ntmps23
  go_wp2_with (go_at_call 34; refine hh.mono ?_; rintro e w' ⟨⟨v', rfl, hI⟩, rfl⟩)
  go_ret
  exact ⟨⟨_, rfl, hI⟩, rfl⟩
end Go.Proofs.YbulkcfwsFmt
