import Derived.Test.YbulkcfwsFmtHold
import Derived.Test.YbulkcfwsFmtCat
namespace Go.Proofs.YbulkcfwsFmt
open Go.RowKit

theorem info115 : (Ybaf.prog.info? 115).map (fun i => (i.zero, i.size, i.bytes)) = some (some (Value.agg #[.string ⟨#[]⟩, .slice none 0 0]), 2, 40) := by kernel_rfl

theorem owns_heap {w w' : World} {B : Nat} {e : TypeId} {m : Nat} {v : Value} {n : Nat} {cs : List Value} (h : w.ownsRow B e m v n cs) (hk : ∀ g, v.ownBlock = some g → w'.heap[g]? = w.heap[g]?) : w'.ownsRow B e m v n cs := by
  obtain ⟨hl, h⟩ := h
  refine ⟨hl, ?_⟩
  rcases h with h | ⟨g, cap, cur, rfl, hb, hg, r⟩
  · exact .inl h
  · exact .inr ⟨g, cap, cur, rfl, hb, (hk g rfl).trans hg, r⟩

/-- A row of kinsmen. -/
def Kins (ok : Nat → Prop) (w : World) (v : Value) (K : List (Nat × List Nat)) : Prop :=
  ∃ sv : Nat → Value, Row ok w v K.length 2 (flat K.length fun j => [.string (nameOf (K.getD j default).1), sv j]) ∧ ∀ j, j < K.length → Steps ok w (sv j) (K.getD j default).2

theorem Kins.keep {ok ok' : Nat → Prop} {w w' : World} {v : Value} {K : List (Nat × List Nat)} (h : Kins ok w v K)
    (hk : ∀ b, ok b → b < w.heap.size → w'.heap[b]? = w.heap[b]? ∧ ok' b) (hs : w.heap.size ≤ w'.heap.size) : Kins ok' w' v K := by
  obtain ⟨sv, h1, h2⟩ := h
  exact ⟨sv, h1.keep hk hs, fun j hj => (h2 j hj).keep hk hs⟩

/-- The row that is being made; the steps lie elsewhere. -/
def Next (C B : Nat) (w : World) (v : Value) (K : List (Nat × List Nat)) : Prop :=
  ∃ sv : Nat → Value, w.ownsRow B 115 2 v K.length (flat K.length fun j => [.string (nameOf (K.getD j default).1), sv j]) ∧ ∀ j, j < K.length → Steps (fun b => some b ≠ v.ownBlock ∧ C ≤ b) w (sv j) (K.getD j default).2

theorem next_nil (C B : Nat) (w : World) : Next C B w (.slice none (0 : Nat) 0) [] := ⟨fun _ => .bool false, World.ownsRow_nil w B 115 2, fun j hj => by simp at hj⟩

theorem Next.lt {C B : Nat} {w : World} {v : Value} {K : List (Nat × List Nat)} (h : Next C B w v K) {g : Nat} (hg : v.ownBlock = some g) : B ≤ g ∧ g < w.heap.size := by
  obtain ⟨sv, h1, _⟩ := h
  exact h1.lt g hg

theorem Next.below {C B : Nat} {w w' : World} {v : Value} {K : List (Nat × List Nat)} (h : Next C B w v K) (hb : Below w.heap.size w w') : Next C B w' v K := by
  have hlt := @h.lt
  obtain ⟨sv, h1, h2⟩ := h
  exact ⟨sv, owns_heap h1 (fun g hg => hb.block g (hlt hg).2), fun j hj => (h2 j hj).lift hb⟩

theorem Next.kins {C B : Nat} {w : World} {v : Value} {K : List (Nat × List Nat)} (h : Next C B w v K) (hCB : C ≤ B) : Kins (C ≤ ·) w v K := by
  obtain ⟨sv, h1, h2⟩ := h
  exact ⟨sv, (row_of_owns h1).mono (fun b hok _ => Nat.le_trans hCB hok.2), fun j hj => (h2 j hj).keep (fun b hok _ => ⟨rfl, hok.2⟩) (Nat.le_refl _)⟩

theorem next_append {C B : Nat} {w w' : World} {v v' : Value} {K : List (Nat × List Nat)} {q : Nat} {is : List Nat} {u : Value} {sv : Nat → Value} (h2 : ∀ j, j < K.length → Steps (fun b => some b ≠ v.ownBlock ∧ C ≤ b) w (sv j) (K.getD j default).2) (hu : Steps (fun b => some b ≠ v.ownBlock ∧ C ≤ b) w u is)
    (hown : w'.ownsRow B 115 2 v' (K.length + 1) ((flat K.length fun j => [.string (nameOf (K.getD j default).1), sv j]) ++ [.string (nameOf q), u])) (hg : w.grownBy w' v.ownBlock) (hat : v'.ownBlock = v.ownBlock ∨ v'.ownBlock = some w.heap.size) :
    Next C B w' v' (K ++ [(q, is)]) := by
  have hk : ∀ b, (some b ≠ v.ownBlock ∧ C ≤ b) → b < w.heap.size → w'.heap[b]? = w.heap[b]? ∧ (some b ≠ v'.ownBlock ∧ C ≤ b) := by
    rintro b ⟨hb, hC⟩ hlt
    refine ⟨hg.block b hlt hb, ?_, hC⟩
    rcases hat with hat | hat
    · rw [hat]; exact hb
    · rw [hat]; intro e; simp at e; omega
  refine ⟨fun j => if j < K.length then sv j else u, ?_, ?_⟩
  · have : (K ++ [(q, is)]).length = K.length + 1 := by simp
    rw [this, flat_succ]
    refine (congrArg (fun l => w'.ownsRow B 115 2 v' (K.length + 1) l) ?_).mp hown
    congr 1
    · refine flat_congr fun j hj => ?_
      simp [List.getD, List.getElem?_append, hj]
    · simp [List.getD]
  · intro j hj
    have hj' : j < K.length + 1 := by simpa using hj
    by_cases e : j < K.length
    · simp only [e, if_true]
      have : (K ++ [(q, is)]).getD j default = K.getD j default := by simp [List.getD, List.getElem?_append, e]
      rw [this]
      exact (h2 j e).keep hk hg.size
    · obtain rfl : j = K.length := by omega
      have : (K ++ [(q, is)]).getD K.length default = (q, is) := by simp [List.getD]
      rw [this]
      simp only [Nat.lt_irrefl, if_false]
      exact hu.keep hk hg.size

theorem steps_snoc {ok : Nat → Prop} {w : World} {v' u : Value} {is : List Nat} {i : Nat} {sv : Nat → Value} (h : ∀ j, j < is.length → Ints ok w (sv j) [Int.ofNat (is.getD j 0)])
    (hr : Row ok w v' (is.length + 1) 4 ((flat is.length fun j => [sv j, .int .i64 0, .string ⟨#[]⟩, .string ⟨#[]⟩]) ++ [u, .int .i64 0, .string ⟨#[]⟩, .string ⟨#[]⟩])) (hu : Ints ok w u [Int.ofNat i]) : Steps ok w v' (is ++ [i]) := by
  refine ⟨fun j => if j < is.length then sv j else u, ?_, ?_⟩
  · have : (is ++ [i]).length = is.length + 1 := by simp
    rw [this, flat_succ]
    refine (congrArg (fun l => Row ok w v' (is.length + 1) 4 l) ?_).mp hr
    congr 1
    · refine flat_congr fun j hj => ?_
      simp [hj]
    · simp
  · intro j hj
    have hj' : j < is.length + 1 := by simpa using hj
    by_cases e : j < is.length
    · simp only [e, if_true]
      have : (is ++ [i]).getD j 0 = is.getD j 0 := by simp [List.getD, List.getElem?_append, e]
      rw [this]
      exact h j e
    · obtain rfl : j = is.length := by omega
      have : (is ++ [i]).getD is.length 0 = i := by simp [List.getD]
      rw [this]
      simp only [Nat.lt_irrefl, if_false]
      exact hu

/-- What relation i adds to a chain. -/
def famOut (L : List Rel) (s : Nat) (rev : Bool) (is : List Nat) (i : Nat) : List (Nat × List Nat) :=
  if ((L.getD i r0).ty == 2 && isB (L.getD i r0).ti s rev) = true then [(if rev then (L.getD i r0).fr else (L.getD i r0).to, is ++ [i])] else []
def kin1 (L : List Rel) (s : Nat) (k : Nat × List Nat) : List (Nat × List Nat) := (fromIdx L k.1).flatMap (famOut L s false k.2) ++ (toIdx L k.1).flatMap (famOut L s true k.2)
def kinStep (L : List Rel) (s : Nat) (K : List (Nat × List Nat)) : List (Nat × List Nat) := K.flatMap (kin1 L s)
def kinL (L : List Rel) (p : Nat) (path : List Nat) : List (Nat × List Nat) := path.foldl (fun K s => kinStep L s K) [(p, [])]

theorem famOut_len (L : List Rel) (s : Nat) (rev : Bool) (is : List Nat) (i : Nat) : (famOut L s rev is i).length ≤ 1 := by
  unfold famOut
  split <;> simp

theorem flatMap_len_le {α β : Type} (xs : List α) (f : α → List β) (m : Nat) (h : ∀ x ∈ xs, (f x).length ≤ m) : (xs.flatMap f).length ≤ xs.length * m := by
  induction xs with
  | nil => simp
  | cons x xs ih =>
    rw [List.flatMap_cons, List.length_append, List.length_cons, Nat.succ_mul]
    have h1 := h x List.mem_cons_self
    have h2 := ih (fun y hy => h y (List.mem_cons_of_mem _ hy))
    omega

theorem kin1_len (L : List Rel) (hL : L.length ≤ 32) (s : Nat) (k : Nat × List Nat) : (kin1 L s k).length ≤ 64 := by
  unfold kin1
  rw [List.length_append]
  have h1 := flatMap_len_le (fromIdx L k.1) (famOut L s false k.2) 1 (fun _ _ => famOut_len ..)
  have h2 := flatMap_len_le (toIdx L k.1) (famOut L s true k.2) 1 (fun _ _ => famOut_len ..)
  have h3 := fromIdx_len L k.1
  have h4 := toIdx_len L k.1
  omega

theorem kinStep_len (L : List Rel) (hL : L.length ≤ 32) (s : Nat) (K : List (Nat × List Nat)) : (kinStep L s K).length ≤ K.length * 64 :=
  flatMap_len_le _ _ _ fun _ _ => kin1_len L hL s _

theorem kinL_snoc (L : List Rel) (p : Nat) (path : List Nat) (s : Nat) : kinL L p (path ++ [s]) = kinStep L s (kinL L p path) := by simp [kinL]

/-- What every chain is. -/
def ChOk (L : List Rel) (m : Nat) (e : Nat × List Nat) : Prop := e.1 < 7 ∧ (∀ i ∈ e.2, i < L.length) ∧ e.2.length ≤ m

theorem famOut_ok (L : List Rel) (hg : ∀ i, i < L.length → (L.getD i r0).ok) (s : Nat) (rev : Bool) (is : List Nat) (i : Nat) (hi : i < L.length) (m : Nat) (his : ∀ j ∈ is, j < L.length) (hm : is.length ≤ m) : ∀ e ∈ famOut L s rev is i, ChOk L (m + 1) e := by
  intro e he
  unfold famOut at he
  split at he
  · rw [List.mem_singleton] at he
    subst he
    obtain ⟨_, h2, h3, _⟩ := hg i hi
    refine ⟨?_, ?_, by simp; omega⟩
    · cases rev
      · show (L.getD i r0).to < 7
        omega
      · show (L.getD i r0).fr < 7
        omega
    · intro j hj
      rcases List.mem_append.1 hj with hj | hj
      · exact his j hj
      · rw [List.mem_singleton] at hj; omega
  · simp at he

theorem kin1_ok (L : List Rel) (hg : ∀ i, i < L.length → (L.getD i r0).ok) (s : Nat) (m : Nat) (k : Nat × List Nat) (hk : ChOk L m k) : ∀ e ∈ kin1 L s k, ChOk L (m + 1) e := by
  intro e he
  rcases List.mem_append.1 he with he | he
  · obtain ⟨i, hi, he⟩ := List.mem_flatMap.1 he
    exact famOut_ok L hg s false k.2 i (fromIdx_lt L k.1 i hi) m hk.2.1 hk.2.2 e he
  · obtain ⟨i, hi, he⟩ := List.mem_flatMap.1 he
    exact famOut_ok L hg s true k.2 i (toIdx_lt L k.1 i hi) m hk.2.1 hk.2.2 e he

theorem kinStep_ok (L : List Rel) (hg : ∀ i, i < L.length → (L.getD i r0).ok) (s m : Nat) (K : List (Nat × List Nat)) (hK : ∀ e ∈ K, ChOk L m e) : ∀ e ∈ kinStep L s K, ChOk L (m + 1) e := by
  intro e he
  obtain ⟨k, hk, he⟩ := List.mem_flatMap.1 he
  exact kin1_ok L hg s m k (hK k hk) e he

theorem kinF_ok (L : List Rel) (hg : ∀ i, i < L.length → (L.getD i r0).ok) (hL : L.length ≤ 32) (path : List Nat) (K : List (Nat × List Nat)) (m : Nat) (hK : ∀ e ∈ K, ChOk L m e) :
    (∀ e ∈ path.foldl (fun K s => kinStep L s K) K, ChOk L (m + path.length) e) ∧ (path.foldl (fun K s => kinStep L s K) K).length ≤ K.length * 64 ^ path.length := by
  induction path generalizing K m with
  | nil => exact ⟨hK, by simp⟩
  | cons s path ih =>
    obtain ⟨h1, h2⟩ := ih (kinStep L s K) (m + 1) (kinStep_ok L hg s m K hK)
    refine ⟨fun e he => ?_, ?_⟩
    · have := h1 e he
      rwa [Nat.add_assoc, Nat.add_comm 1, ← List.length_cons (a := s)] at this
    · refine Nat.le_trans h2 ?_
      have := Nat.mul_le_mul_right (64 ^ path.length) (kinStep_len L hL s K)
      rw [List.length_cons, Nat.pow_succ, Nat.mul_comm (64 ^ path.length), ← Nat.mul_assoc]
      exact this

theorem kinL_ok (L : List Rel) (hg : ∀ i, i < L.length → (L.getD i r0).ok) (hL : L.length ≤ 32) (p : Nat) (hp : p < 7) (path : List Nat) : (∀ e ∈ kinL L p path, ChOk L path.length e) ∧ (kinL L p path).length ≤ 64 ^ path.length := by
  have := kinF_ok L hg hL path [(p, [])] 0 (fun e he => by
    rw [List.mem_singleton] at he
    subst he
    exact ⟨hp, by simp, by simp⟩)
  simpa [kinL] using this

theorem kinL_take (L : List Rel) (hg : ∀ i, i < L.length → (L.getD i r0).ok) (hL : L.length ≤ 32) (p : Nat) (hp : p < 7) (path : List Nat) (k : Nat) (hk : k ≤ 3) : (∀ e ∈ kinL L p (path.take k), ChOk L 3 e) ∧ (kinL L p (path.take k)).length ≤ 262144 := by
  obtain ⟨h1, h2⟩ := kinL_ok L hg hL p hp (path.take k)
  have hl : (path.take k).length ≤ 3 := by simp; omega
  refine ⟨fun e he => ⟨(h1 e he).1, (h1 e he).2.1, Nat.le_trans (h1 e he).2.2 hl⟩, Nat.le_trans h2 ?_⟩
  have := Nat.pow_le_pow_right (n := 64) (by decide) hl
  omega

set_option maxHeartbeats 1000000 in
theorem one_any (i : Nat) (w : World) :
    Calls Ybaf.prog 62 #[.int .i64 i] w fun e w' => (∃ u, e = .returned (.agg #[u, .int .i64 0, .string ⟨#[]⟩, .string ⟨#[]⟩]) ∧ Ints (w.heap.size ≤ ·) w' u [Int.ofNat i]) ∧ Below w.heap.size w w' := by
  go_enter Ybaf.func62, Ybaf.ntmps62
  go_wp2
  refine bodyPost_ret (by simp [results, Ybaf.results62, go_sem]; try rfl) rfl ?_
  refine ⟨⟨_, rfl, rfl, _, 1, rfl, Nat.le_refl _, .inr ⟨w.heap.size + 1, 0, rfl, by simp, by simp, fun j u hj => ?_⟩⟩, ((Below.refl _ w).alloc (Nat.le_refl _) _).alloc (by simp) _⟩
  have h0 : j = 0 := by
    have := (List.getElem?_eq_some_iff.1 hj).1
    simp at this
    omega
  subst h0
  simp at hj
  subst hj
  go_simp
end Go.Proofs.YbulkcfwsFmt
