import Derived.Test.YbulkcfwsFmtRel
import Derived.Test.YbulkcfwsFmtAreach
namespace Go.Proofs.YbulkcfwsFmt
open Go.RowKit

variable {L : List Rel} {d : Int} {c : Nat}

theorem mem_fromIdx {p i : Nat} : i ∈ fromIdx L p ↔ i < L.length ∧ (L.getD i r0).fr = p := by simp [fromIdx]
theorem mem_toIdx {p i : Nat} : i ∈ toIdx L p ↔ i < L.length ∧ (L.getD i r0).to = p := by simp [toIdx]

theorem mem_nbL (hg : ∀ i, i < L.length → (L.getD i r0).ok) (up : Bool) (a q : Nat) : q ∈ nbL L d up a ↔ ∃ i, i < L.length ∧ srcOf L up i = a ∧ ctlB L d i = true ∧ otherOf L up i = q := by
  have hlt : ∀ i, i < L.length → otherOf L up i % 7 = otherOf L up i := fun i hi => by
    obtain ⟨_, h2, h3, _⟩ := hg i hi
    unfold otherOf
    split <;> omega
  have hnb : ∀ i, i ∈ nbIdx L up a ↔ i < L.length ∧ srcOf L up i = a := fun i => by
    unfold nbIdx srcOf
    cases up
    · exact mem_fromIdx
    · exact mem_toIdx
  unfold nbL outs
  rw [List.map_map]
  constructor
  · intro h
    obtain ⟨i, hi, rfl⟩ := List.mem_map.1 h
    obtain ⟨h1, h2⟩ := List.mem_filter.1 hi
    obtain ⟨h3, h4⟩ := (hnb i).1 h1
    exact ⟨i, h3, h4, h2, (hlt i h3).symm⟩
  · rintro ⟨i, h1, h2, h3, rfl⟩
    exact List.mem_map.2 ⟨i, List.mem_filter.2 ⟨(hnb i).2 ⟨h1, h2⟩, h3⟩, hlt i h1⟩

theorem stepIn_mono (up : Bool) (i : Nat) (In : Nat → Bool) (q : Nat) (h : In q = true) : stepIn L d up c i In q = true := by
  unfold stepIn
  split
  · show (if _ then true else In q) = true
    split
    · rfl
    · exact h
  · exact h

theorem passIn_mono (up : Bool) (In : Nat → Bool) (k q : Nat) (h : In q = true) : passIn L d up c In k q = true := by
  induction k with
  | zero => exact h
  | succ k ih => exact stepIn_mono up k _ q ih

theorem passIn_le (up : Bool) (In : Nat → Bool) (q : Nat) {j k : Nat} (hjk : j ≤ k) (h : passIn L d up c In j q = true) : passIn L d up c In k q = true := by
  induction k with
  | zero => obtain rfl : j = 0 := by omega
            exact h
  | succ k ih =>
    by_cases e : j = k + 1
    · subst e; exact h
    · exact stepIn_mono up k _ q (ih (by omega))

theorem roundIn_le (up : Bool) (q : Nat) {j k : Nat} (hjk : j ≤ k) (h : roundIn L d up c j q = true) : roundIn L d up c k q = true := by
  induction k with
  | zero => obtain rfl : j = 0 := by omega
            exact h
  | succ k ih =>
    by_cases e : j = k + 1
    · subst e; exact h
    · exact passIn_mono up _ _ q (ih (by omega))

theorem roundIn_next (up : Bool) (r i : Nat) (hi : i < L.length) (hc : ctlB L d i = true) (hs : roundIn L d up c r (srcOf L up i) = true) (hn : srcOf L up i ≠ 0 ∨ srcOf L up i = c) : roundIn L d up c (r + 1) (otherOf L up i) = true := by
  show passIn L d up c (roundIn L d up c r) L.length (otherOf L up i) = true
  refine passIn_le up _ _ (j := i + 1) (by omega) ?_
  show stepIn L d up c i (passIn L d up c (roundIn L d up c r) i) (otherOf L up i) = true
  unfold stepIn
  rw [if_pos]
  · simp
  · rw [hc, passIn_mono up _ _ _ hs]
    simpa using hn

theorem passIn_sound (hg : ∀ i, i < L.length → (L.getD i r0).ok) (up : Bool) (In : Nat → Bool) (h : ∀ q, In q = true → Reach L d up c q) (k : Nat) (hk : k ≤ L.length) : ∀ q, passIn L d up c In k q = true → Reach L d up c q := by
  induction k with
  | zero => exact h
  | succ k ih =>
    intro q hq
    have ih := ih (by omega)
    change stepIn L d up c k (passIn L d up c In k) q = true at hq
    unfold stepIn at hq
    split at hq
    · rename_i hcond
      simp only [Bool.and_eq_true, Bool.or_eq_true, bne_iff_ne, beq_iff_eq] at hcond
      obtain ⟨⟨h1, h2⟩, h3⟩ := hcond
      by_cases e : q = otherOf L up k
      · obtain ⟨n, hn⟩ := ih _ h2
        exact ⟨n + 1, _, hn, h3, (mem_nbL hg up _ _).2 ⟨k, by omega, rfl, h1, e.symm⟩⟩
      · have hq' : (if q = otherOf L up k then true else passIn L d up c In k q) = true := hq
        rw [if_neg e] at hq'
        exact ih q hq'
    · exact ih q hq

theorem roundIn_sound (hg : ∀ i, i < L.length → (L.getD i r0).ok) (up : Bool) (r : Nat) : ∀ q, roundIn L d up c r q = true → Reach L d up c q := by
  induction r with
  | zero => intro q hq; exact ⟨0, show q = c by simpa [roundIn] using hq⟩
  | succ r ih => exact passIn_sound hg up _ ih _ (Nat.le_refl _)

theorem countP_lt (A B : Nat → Bool) (xs : List Nat) (h : ∀ q, A q = true → B q = true) : xs.countP A ≤ xs.countP B ∧ ((∃ q ∈ xs, B q = true ∧ A q = false) → xs.countP A < xs.countP B) := by
  induction xs with
  | nil => exact ⟨by simp, by rintro ⟨q, hq, _⟩; simp at hq⟩
  | cons x xs ih =>
    obtain ⟨i1, i2⟩ := ih
    rw [List.countP_cons, List.countP_cons]
    refine ⟨?_, ?_⟩
    · cases e1 : A x <;> cases e2 : B x <;> simp_all <;> omega
    · rintro ⟨q, hq, h1, h2⟩
      rcases List.mem_cons.1 hq with rfl | hq
      · simp [h1, h2]; omega
      · have := i2 ⟨q, hq, h1, h2⟩
        cases e1 : A x <;> cases e2 : B x <;> simp_all <;> omega

theorem roundIn_stable (up : Bool) (hc : c < 7) : ∃ r, r ≤ 6 ∧ ∀ q, q < 7 → roundIn L d up c (r + 1) q = true → roundIn L d up c r q = true := by
  have key : ∀ r, r ≤ 7 → (∃ r', r' < r ∧ ∀ q, q < 7 → roundIn L d up c (r' + 1) q = true → roundIn L d up c r' q = true) ∨ r + 1 ≤ (List.range 7).countP (roundIn L d up c r) := by
    intro r
    induction r with
    | zero =>
      intro _
      right
      have : 0 < (List.range 7).countP (roundIn L d up c 0) := List.countP_pos_iff.2 ⟨c, by simpa using hc, by simp [roundIn]⟩
      omega
    | succ r ih =>
      intro hr
      rcases ih (by omega) with ⟨r', h1, h2⟩ | h
      · exact .inl ⟨r', by omega, h2⟩
      · by_cases hs : ∀ q, q < 7 → roundIn L d up c (r + 1) q = true → roundIn L d up c r q = true
        · exact .inl ⟨r, by omega, hs⟩
        · right
          have hex : ∃ q ∈ List.range 7, roundIn L d up c (r + 1) q = true ∧ roundIn L d up c r q = false := by
            apply Classical.byContradiction
            intro hno
            apply hs
            intro q hq h1
            cases e : roundIn L d up c r q
            · exact (hno ⟨q, by simpa using hq, h1, e⟩).elim
            · rfl
          have := (countP_lt (roundIn L d up c r) (roundIn L d up c (r + 1)) (List.range 7) (fun q hq => roundIn_le up q (by omega) hq)).2 hex
          omega
  rcases key 7 (Nat.le_refl _) with ⟨r, h1, h2⟩ | h
  · exact ⟨r, by omega, h2⟩
  · have : (List.range 7).countP (roundIn L d up c 7) ≤ (List.range 7).length := List.countP_le_length
    simp at this
    omega

/-- The model's seven rounds find what can be reached. -/
theorem roundIn_reach (hg : ∀ i, i < L.length → (L.getD i r0).ok) (up : Bool) (hc : c < 7) (q : Nat) : roundIn L d up c 7 q = true ↔ Reach L d up c q := by
  refine ⟨roundIn_sound hg up 7 q, ?_⟩
  obtain ⟨r, hr, hst⟩ := roundIn_stable (L := L) (d := d) up hc
  rintro ⟨k, hk⟩
  refine roundIn_le up q (j := r) (by omega) ?_
  induction k generalizing q with
  | zero =>
    refine roundIn_le up q (j := 0) (by omega) ?_
    have : q = c := hk
    simp [roundIn, this]
  | succ k ih =>
    obtain ⟨a, h1, h2, h3⟩ := hk
    have h4 := ih a h1
    obtain ⟨i, hi, rfl, hci, rfl⟩ := (mem_nbL hg up _ _).1 h3
    refine hst _ ?_ (roundIn_next up r i hi hci h4 h2)
    obtain ⟨_, g2, g3, _⟩ := hg i hi
    unfold otherOf
    split <;> omega

/-- One step of the model's sets, over the first k relations. -/
def curK (L : List Rel) (d : Int) (s : Nat) (cur : Nat → Bool) (k : Nat) (x : Nat) : Bool :=
  (List.range k).any fun i => (L.getD i r0).ty == 2 && (L.getD i r0).on d && ((cur (L.getD i r0).fr && isB (L.getD i r0).ti s false && x == (L.getD i r0).to) || (cur (L.getD i r0).to && isB (L.getD i r0).ti s true && x == (L.getD i r0).fr))
def curL (L : List Rel) (d : Int) (p : Nat) (path : List Nat) : Nat → Bool := path.foldl (fun cur s => curK L d s cur L.length) (fun q => q == p)

theorem curL_snoc (p : Nat) (path : List Nat) (s : Nat) : curL L d p (path ++ [s]) = curK L d s (curL L d p path) L.length := by simp [curL]

theorem mem_famOut (s : Nat) (rev : Bool) (is : List Nat) (i : Nat) (e : Nat × List Nat) : e ∈ famOut L s rev is i ↔ (L.getD i r0).ty = 2 ∧ isB (L.getD i r0).ti s rev = true ∧ e = (if rev then (L.getD i r0).fr else (L.getD i r0).to, is ++ [i]) := by
  unfold famOut
  split
  · rename_i h
    simp only [Bool.and_eq_true, beq_iff_eq] at h
    rw [List.mem_singleton]
    exact ⟨fun h' => ⟨h.1, h.2, h'⟩, fun h' => h'.2.2⟩
  · rename_i h
    simp only [Bool.and_eq_true, beq_iff_eq] at h
    constructor
    · intro h'; simp at h'
    · rintro ⟨h1, h2, _⟩; exact (h ⟨h1, h2⟩).elim

theorem chOn_snoc (x y i : Nat) (is : List Nat) : chOn L d (x, is ++ [i]) = true ↔ chOn L d (y, is) = true ∧ (L.getD i r0).on d = true := by
  simp [chOn, List.any_append]

/-- The chains whose every relation holds end where the model's sets lie. -/
theorem kinL_cur (p : Nat) (path : List Nat) (x : Nat) : (∃ e ∈ kinL L p path, chOn L d e = true ∧ e.1 = x) ↔ curL L d p path x = true := by
  obtain ⟨q, rfl⟩ : ∃ q, path = q.reverse := ⟨path.reverse, by simp⟩
  induction q generalizing x with
  | nil =>
    simp only [kinL, curL, List.reverse_nil, List.foldl_nil, List.mem_singleton, beq_iff_eq]
    constructor
    · rintro ⟨e, rfl, _, rfl⟩; rfl
    · rintro rfl; exact ⟨_, rfl, rfl, rfl⟩
  | cons s q ih =>
    rw [List.reverse_cons, kinL_snoc, curL_snoc]
    unfold kinStep curK
    simp only [List.any_eq_true, List.mem_range, Bool.and_eq_true, Bool.or_eq_true, beq_iff_eq, List.mem_flatMap]
    constructor
    · rintro ⟨e, ⟨e', he', he⟩, hon, rfl⟩
      obtain ⟨y, is⟩ := e'
      rcases List.mem_append.1 he with he | he
      · obtain ⟨i, hi, he⟩ := List.mem_flatMap.1 he
        obtain ⟨h1, h2, rfl⟩ := (mem_famOut s false is i e).1 he
        obtain ⟨h3, h4⟩ := (chOn_snoc _ y i is).1 hon
        obtain ⟨h5, h6⟩ := mem_fromIdx.1 hi
        exact ⟨i, h5, ⟨h1, h4⟩, .inl ⟨⟨(ih _).1 ⟨_, he', h3, h6.symm⟩, h2⟩, rfl⟩⟩
      · obtain ⟨i, hi, he⟩ := List.mem_flatMap.1 he
        obtain ⟨h1, h2, rfl⟩ := (mem_famOut s true is i e).1 he
        obtain ⟨h3, h4⟩ := (chOn_snoc _ y i is).1 hon
        obtain ⟨h5, h6⟩ := mem_toIdx.1 hi
        exact ⟨i, h5, ⟨h1, h4⟩, .inr ⟨⟨(ih _).1 ⟨_, he', h3, h6.symm⟩, h2⟩, rfl⟩⟩
    · rintro ⟨i, hi, ⟨h1, h2⟩, ⟨⟨h3, h4⟩, rfl⟩ | ⟨⟨h3, h4⟩, rfl⟩⟩
      · obtain ⟨⟨y, is⟩, he', hon, hy⟩ := (ih _).2 h3
        exact ⟨_, ⟨_, he', List.mem_append.2 (.inl (List.mem_flatMap.2 ⟨i, mem_fromIdx.2 ⟨hi, hy.symm⟩, (mem_famOut s false is i _).2 ⟨h1, h4, rfl⟩⟩))⟩, (chOn_snoc _ y i is).2 ⟨hon, h2⟩, rfl⟩
      · obtain ⟨⟨y, is⟩, he', hon, hy⟩ := (ih _).2 h3
        exact ⟨_, ⟨_, he', List.mem_append.2 (.inr (List.mem_flatMap.2 ⟨i, mem_toIdx.2 ⟨hi, hy.symm⟩, (mem_famOut s true is i _).2 ⟨h1, h4, rfl⟩⟩))⟩, (chOn_snoc _ y i is).2 ⟨hon, h2⟩, rfl⟩

/-- The model's sets. -/
def withB (L : List Rel) (d : Int) (c i : Nat) : Bool := i == c || (roundIn L d true c 7 i && i != 0)
def aroundB (L : List Rel) (d : Int) (c i : Nat) : Bool := i == c || ((roundIn L d true c 7 i || roundIn L d false c 7 i) && i != 0)
def kinKB (L : List Rel) (d : Int) (c : Nat) (rs : List Nat) (k i : Nat) : Bool := withB L d c i || (List.range k).any fun j => withB L d c (L.getD j r0).to && (L.getD j r0).on d && roleIn rs (L.getD j r0).ro && i == (L.getD j r0).fr
def offKB (L : List Rel) (d : Int) (c p k : Nat) : Bool := (List.range k).any fun j => (L.getD j r0).ty == 0 && (L.getD j r0).fr == p && (L.getD j r0).on d && aroundB L d c (L.getD j r0).to
def hitB (cur kin : Nat → Bool) : Bool := (List.range 7).any fun i => cur i && kin i
def modelB (L : List Rel) (d : Int) (c : Nat) (rs : List Nat) (paths : List (List Nat)) (p : Nat) : Bool :=
  withB L d c p || offKB L d c p L.length || paths.any fun path => hitB (curL L d p path) (kinKB L d c rs L.length)

theorem curL_lt (hg : ∀ i, i < L.length → (L.getD i r0).ok) (p : Nat) (hp : p < 7) (path : List Nat) (x : Nat) (h : curL L d p path x = true) : x < 7 := by
  obtain ⟨q, rfl⟩ : ∃ q, path = q.reverse := ⟨path.reverse, by simp⟩
  cases q with
  | nil =>
    have : x = p := by simpa [curL] using h
    omega
  | cons s q =>
    rw [List.reverse_cons, curL_snoc] at h
    unfold curK at h
    simp only [List.any_eq_true, List.mem_range, Bool.and_eq_true, Bool.or_eq_true, beq_iff_eq] at h
    obtain ⟨i, hi, _, ⟨_, rfl⟩ | ⟨_, rfl⟩⟩ := h <;> obtain ⟨_, g2, g3, _⟩ := hg i hi <;> omega

/-- What the program answers for p is what the model finds. -/
theorem relB_model (hg : ∀ i, i < L.length → (L.getD i r0).ok) (hc : c < 7) (rs us ds : List Nat) (paths : List (List Nat)) (p : Nat) (hp : p < 7)
    (mu : ∀ q, q ∈ us ↔ Reach L d true c q ∧ q ≠ c ∧ q ≠ 0) (md : ∀ q, q ∈ ds ↔ Reach L d false c q ∧ q ≠ c ∧ q ≠ 0) :
    relB L d c us (c :: us ++ ds) (kinOf L d rs (c :: us)) paths p = modelB L d c rs paths p := by
  have hup : ∀ q, q ∈ c :: us ↔ withB L d c q = true := fun q => by
    rw [List.mem_cons, mu, ← roundIn_reach hg true hc]
    unfold withB
    simp only [Bool.or_eq_true, Bool.and_eq_true, beq_iff_eq, bne_iff_ne]
    constructor
    · rintro (h | ⟨h1, h2, h3⟩)
      · exact .inl h
      · exact .inr ⟨h1, h3⟩
    · rintro (h | ⟨h1, h3⟩)
      · exact .inl h
      · by_cases e : q = c
        · exact .inl e
        · exact .inr ⟨h1, e, h3⟩
  have har : ∀ q, q ∈ c :: us ++ ds ↔ aroundB L d c q = true := fun q => by
    rw [List.mem_append, List.mem_cons, mu, md, ← roundIn_reach hg true hc, ← roundIn_reach hg false hc]
    unfold aroundB
    simp only [Bool.or_eq_true, Bool.and_eq_true, beq_iff_eq, bne_iff_ne]
    constructor
    · rintro ((h | ⟨h1, h2, h3⟩) | ⟨h1, h2, h3⟩)
      · exact .inl h
      · exact .inr ⟨.inl h1, h3⟩
      · exact .inr ⟨.inr h1, h3⟩
    · rintro (h | ⟨h1 | h1, h3⟩)
      · exact .inl (.inl h)
      · by_cases e : q = c
        · exact .inl (.inl e)
        · exact .inl (.inr ⟨h1, e, h3⟩)
      · by_cases e : q = c
        · exact .inl (.inl e)
        · exact .inr ⟨h1, e, h3⟩
  have hkin : ∀ q, q ∈ kinOf L d rs (c :: us) ↔ kinKB L d c rs L.length q = true := fun q => by
    unfold kinOf kinKB
    rw [List.mem_append, hup]
    simp only [Bool.or_eq_true, List.any_eq_true, List.mem_range, Bool.and_eq_true, beq_iff_eq]
    refine or_congr Iff.rfl ?_
    constructor
    · intro h
      obtain ⟨o, ho, ha⟩ := List.mem_flatMap.1 h
      obtain ⟨i, hi, hb⟩ := List.mem_flatMap.1 ha
      obtain ⟨h1, rfl⟩ := mem_toIdx.1 hi
      unfold kinAdd at hb
      split at hb
      · rename_i h2
        simp only [Bool.and_eq_true] at h2
        exact ⟨i, h1, ⟨⟨(hup _).1 ho, h2.1⟩, h2.2⟩, List.mem_singleton.1 hb⟩
      · simp at hb
    · rintro ⟨i, hi, ⟨⟨h1, h2⟩, h3⟩, rfl⟩
      refine List.mem_flatMap.2 ⟨_, (hup _).2 h1, List.mem_flatMap.2 ⟨i, mem_toIdx.2 ⟨hi, rfl⟩, ?_⟩⟩
      unfold kinAdd
      rw [if_pos (by simp only [Bool.and_eq_true]; exact ⟨h2, h3⟩)]
      exact List.mem_singleton.2 rfl
  have h1 : (p == c || us.any fun q => p == q) = withB L d c p := by
    have : ((p == c || us.any fun q => p == q) = true) ↔ withB L d c p = true := by
      rw [← hup, List.mem_cons]
      simp
    exact Bool.eq_iff_iff.2 this
  have h2 : officeAtB L d (c :: us ++ ds) p = offKB L d c p L.length := by
    refine Bool.eq_iff_iff.2 ?_
    unfold officeAtB offKB officeB
    rw [List.any_eq_true]
    simp only [List.any_eq_true, List.mem_range, Bool.and_eq_true, beq_iff_eq]
    constructor
    · rintro ⟨i, hi, ⟨h1, h2⟩, q, hq, h3⟩
      obtain ⟨h4, h5⟩ := mem_fromIdx.1 hi
      exact ⟨i, h4, ⟨⟨h1, h5⟩, h2⟩, (har _).1 (h3 ▸ hq)⟩
    · rintro ⟨i, hi, ⟨⟨h1, h5⟩, h2⟩, h3⟩
      exact ⟨i, mem_fromIdx.2 ⟨hi, h5⟩, ⟨h1, h2⟩, _, (har _).2 h3, rfl⟩
  have h3 : kinOnB L d p paths (kinOf L d rs (c :: us)) = paths.any fun path => hitB (curL L d p path) (kinKB L d c rs L.length) := by
    refine Bool.eq_iff_iff.2 ?_
    unfold kinOnB kinAll kinK hitB
    rw [List.any_eq_true]
    simp only [List.any_eq_true, List.mem_range, Bool.and_eq_true, beq_iff_eq, List.mem_flatMap, List.mem_map, List.mem_filter]
    constructor
    · rintro ⟨k, ⟨path, hpath, e, ⟨he, hon⟩, rfl⟩, q, hq, h⟩
      have hcur := (kinL_cur (L := L) (d := d) p path e.1).1 ⟨e, he, hon, rfl⟩
      exact ⟨path, hpath, e.1, curL_lt hg p hp path _ hcur, hcur, (hkin _).1 (h ▸ hq)⟩
    · rintro ⟨path, hpath, x, _, h1, h2⟩
      obtain ⟨e, he, hon, rfl⟩ := (kinL_cur (L := L) (d := d) p path x).2 h1
      exact ⟨_, ⟨path, hpath, e, ⟨he, hon⟩, rfl⟩, _, (hkin _).2 h2, rfl⟩
  unfold relB modelB
  rw [h1, h2, h3]

end Go.Proofs.YbulkcfwsFmt
