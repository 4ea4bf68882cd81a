import Derived.Test.YbulkcfwsFmtLeaf
import Derived.Maps.OwnSet
import Derived.Maps.AppendAt
import Derived.StringKeys
namespace Go.Proofs.YbulkcfwsFmt
open Go.RowKit Go.WideMaps Go.Maps

/-- An element of a map, as it lies. -/
def raw (v : Value) : Option (DataW Value × List MemPlace) := some (.held v, [])

/-- What a key reads as. -/
def keyL (s : ByteArray) : Lit := .string s.data.toList

theorem keyed9 : Keyed Ybaf.prog 9 := string_keyed Ybaf.underlying9

theorem keyOf_s (s : ByteArray) (h : s.size ≤ maxLen) : keyOf Ybaf.prog 9 (.string s) = some (keyL s) := keyOf_string_mk Ybaf.underlying9 h

theorem keyL_inj {s t : ByteArray} (h : keyL s = keyL t) : s = t := by
  simp only [keyL, Lit.string.injEq] at h
  cases s; cases t
  simpa [Array.toList_inj] using h

/-- Block b is a map keyed by 'kf 0 ..', p < N: at key p lies 'F p' (z where nothing lies); S: whether something lies there. -/
def MapIs (kf : Nat → ByteArray) (N : Nat) (w : World) (b n : Nat) (z : Value) (F : Nat → Value) (S : Nat → Bool) : Prop :=
  ∃ D : DataW Value, w.ownsMap Ybaf.prog 9 raw b n D ∧ (∀ p, p < N → D.atKey (keyL (kf p)) (.held z) = .held (F p) ∧ Maps.has D (keyL (kf p)) = S p) ∧ ∀ kl, Maps.has D kl = true → ∃ p, p < N ∧ kl = keyL (kf p)

variable {kf : Nat → ByteArray} {N : Nat} {w : World} {b n : Nat} {z : Value} {F : Nat → Value} {S : Nat → Bool}

theorem mapIs_made (kf : Nat → ByteArray) (N : Nat) (w : World) (z : Value) : MapIs kf N (w.alloc (.map #[] 0)) w.heap.size 0 z (fun _ => z) (fun _ => false) :=
  ⟨.map [], World.ownsMap_made _ _ _ _, fun _ _ => ⟨rfl, rfl⟩, fun kl h => by simp [Maps.has] at h⟩

theorem MapIs.kept {w' : World} {row : Option Nat} (h : MapIs kf N w b n z F S) (hg : w.grownBy w' row) (hne : some b ≠ row) : MapIs kf N w' b n z F S := by
  obtain ⟨D, h1, h2⟩ := h
  exact ⟨D, h1.kept hg hne, h2⟩

theorem MapIs.lt (h : MapIs kf N w b n z F S) : b < w.heap.size := by
  obtain ⟨D, h1, _⟩ := h
  exact h1.lt

theorem MapIs.heap {w' : World} (h : MapIs kf N w b n z F S) (he : w'.heap[b]? = w.heap[b]?) : MapIs kf N w' b n z F S := by
  obtain ⟨D, ⟨es, cl, hb, r⟩, h2⟩ := h
  exact ⟨D, ⟨es, cl, he.trans hb, r⟩, h2⟩

theorem MapIs.look {t e : TypeId} (h : MapIs kf N w b n z F S) (ht : Ybaf.prog.underlying t = some (.map 9 e)) (hz : (zeroValue e).run Ybaf.prog w = .ok z w) {p : Nat} (hp : p < N) (hs : (kf p).size ≤ maxLen) :
    (Instr.lookup t (.map (some b)) (.string (kf p)) false).run Ybaf.prog w = .ok (F p) w := by
  obtain ⟨D, h1, h2, -⟩ := h
  obtain ⟨v, ps, hrun, hv⟩ := h1.lookup keyed9 ht hz (zd := .held z) (zp := []) rfl (keyOf_s _ hs)
  rw [(h2 p hp).1] at hv
  simp only [raw, Option.some.injEq, Prod.mk.injEq, DataW.held.injEq] at hv
  rw [hrun, hv.1]

theorem MapIs.lookOk {t e : TypeId} (h : MapIs kf N w b n z F S) (ht : Ybaf.prog.underlying t = some (.map 9 e)) (hz : (zeroValue e).run Ybaf.prog w = .ok z w) {p : Nat} (hp : p < N) (hs : (kf p).size ≤ maxLen) :
    (Instr.lookup t (.map (some b)) (.string (kf p)) true).run Ybaf.prog w = .ok (.tuple #[F p, .bool (S p)]) w := by
  obtain ⟨D, h1, h2, -⟩ := h
  obtain ⟨v, ps, hrun, hv⟩ := h1.look_ok keyed9 ht hz (zd := .held z) (zp := []) rfl (keyOf_s _ hs)
  rw [(h2 p hp).1] at hv
  rw [(h2 p hp).2] at hrun
  simp only [raw, Option.some.injEq, Prod.mk.injEq, DataW.held.injEq] at hv
  rw [hrun, hv.1]

theorem MapIs.store {t e : TypeId} (h : MapIs kf N w b n z F S) (hinj : ∀ p q, p < N → q < N → kf p = kf q → p = q) (ht : Ybaf.prog.underlying t = some (.map 9 e)) (hn : n < maxLen) {p : Nat} (hp : p < N) (hs : (kf p).size ≤ maxLen) (v : Value) :
    ∃ w', (Instr.mapUpdate t (.map (some b)) (.string (kf p)) v).run Ybaf.prog w = .ok () w' ∧
      MapIs kf N w' b (n + 1) z (fun q => if q = p then v else F q) (fun q => if q = p then true else S q) ∧ w.grownBy w' (some b) := by
  obtain ⟨D, h1, h2, h3⟩ := h
  obtain ⟨w', hrun, hown, hg⟩ := h1.update (d := .held v) (ps := []) (val := v) keyed9 ht hn (keyOf_s _ hs) rfl
  refine ⟨w', hrun, ⟨_, hown, fun q hq => ?_, fun kl hkl => ?_⟩, hg⟩
  · by_cases e : q = p
    · subst e
      simp only [if_pos]
      exact ⟨atKey_put_same h1.isMap (keyed9.key (keyOf_s _ hs)) _ _, has_put_same h1.isMap (keyed9.key (keyOf_s _ hs)) _⟩
    · simp only [if_neg e]
      have hne : keyL (kf q) ≠ keyL (kf p) := fun he => e (hinj q p hq hp (keyL_inj he))
      rw [atKey_put_other hne, has_put_other hne]
      exact h2 q hq
  · by_cases e : kl = keyL (kf p)
    · exact ⟨p, hp, e⟩
    · rw [has_put_other e] at hkl
      exact h3 kl hkl

end Go.Proofs.YbulkcfwsFmt
