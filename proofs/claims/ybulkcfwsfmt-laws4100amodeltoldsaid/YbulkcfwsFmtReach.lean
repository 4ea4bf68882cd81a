import Derived.Test.YbulkcfwsFmtReach2
import Derived.Maps.OwnIn
namespace Go.Proofs.YbulkcfwsFmt
open Go.RowKit Go.Shelf
attribute [local go_sem] Oper.semAt_some

set_option maxHeartbeats 1000000 in
theorem controls_any (rb : Nat) (na : ByteArray) (up : Bool) (d : Int) (w : World) :
    Calls Ybaf.prog 54 #[.pointer (some ⟨rb, 0, none⟩), .string na, .bool up, .int .i32 d] w fun e w' =>
      e = .returned (.func (.func 64) #[] #[.pointer (some ⟨w.heap.size, 0, none⟩), .pointer (some ⟨w.heap.size + 1, 0, none⟩), .pointer (some ⟨w.heap.size + 2, 0, none⟩), .pointer (some ⟨w.heap.size + 3, 0, none⟩)]) ∧
      w' = (((w.alloc (.cells #[.pointer (some ⟨rb, 0, none⟩)] 25)).alloc (.cells #[.string na] 9)).alloc (.cells #[.bool up] 4)).alloc (.cells #[.int .i32 d] 29) := by
  go_enter Ybaf.func54, Ybaf.ntmps54
  go_wp2
  go_ret
  exact ⟨rfl, rfl⟩

theorem name_eq0 (p : Nat) (hp : p < 7) : ((nameOf p).toList == [99, 111, 109, 112, 97, 110, 121]) = (p == 0) := by
  rcases lt7 hp with rfl | rfl | rfl | rfl | rfl | rfl | rfl <;> decide +kernel

theorem nameOf_inj : ∀ p q, p < 7 → q < 7 → nameOf p = nameOf q → p = q := by
  intro p q hp hq e
  have := name_eq p q hp hq
  rw [e] at this
  simpa using this.symm

theorem wpListIn_append_eq {F : Fence} {n : Nat} {P : Program} (w : World) {ops : Array Oper} {rest : List Oper} {o : Oper} {a : Act} {Q : Exit → Act → World → Prop}
    (hg : o.guard = none) (s x : Operand) (t : TypeId) (hop : o.op = Op.call { callee := Callee.builtin Builtin.append, args := #[s, x], argTypes := #[t, t] })
    (vs vx : Value) (hs : a.eval s = vs) (hx : a.eval x = vx) (v' : Value) (w' : World) (hrun : (Builtin.append_ #[t, t] o.type #[vs, vx]).run P w = .ok v' w') (hK : wpListIn F n P ops Q rest (a.put o.dst v') w') :
    wpListIn F n P ops Q (o :: rest) a w := by
  refine wpListIn_plain hg fun K hK' => ?_
  unfold Oper.wpIn
  refine ⟨?_, ?_⟩
  · simp [Oper.about, hop, resolve, Target.leads, Sem.run_pure]
  · rw [Oper.semAt_plain F _ _ (by rw [hop]; intro c hc'; cases hc')]
    simp [execOp, hop, resolve, invoke, builtin, hs, hx, hrun, Result.andThen]
    exact hK' _ _ hK

theorem neq100 (W : World) : (binOp .neq 100 .nilFunc .nilFunc).run Ybaf.prog W = .ok (.bool false) W := by kernel_rfl

theorem CS.nup {w : World} {b9 bm b11 b14 : Nat} {T : List Nat} {p : Nat} {n : Nat → Nat} {W : World} {qv : Value} (h : CS w b9 bm b11 b14 T p n W qv) (a : Nat) : CS w b9 bm b11 b14 T p (nUp T n a) W qv := by
  refine ⟨h.bel, h.l9, h.lm, h.l11, h.l14, h.h9, h.h11, h.h14, h.que, ?_, h.ne, h.n14⟩
  obtain ⟨D, h1, h2, h3⟩ := h.map
  refine ⟨D, h1, fun q hq => ?_, h3⟩
  rw [(h2 q hq).1, (h2 q hq).2]
  by_cases e : q ∈ T <;> simp [e, nUp]

/-- The world behind the four boxes. -/
def four (rb : Nat) (na : ByteArray) (up : Bool) (d : Int) (w : World) : World := (((w.alloc (.cells #[.pointer (some ⟨rb, 0, none⟩)] 25)).alloc (.cells #[.string na] 9)).alloc (.cells #[.bool up] 4)).alloc (.cells #[.int .i32 d] 29)

theorem four_facts (rb : Nat) (na : ByteArray) (up : Bool) (d : Int) (w : World) : Below w.heap.size w (four rb na up d w) ∧ (four rb na up d w).heap.size = w.heap.size + 4 ∧
    (four rb na up d w).cell? ⟨w.heap.size, 0, none⟩ = some (.pointer (some ⟨rb, 0, none⟩)) ∧ (four rb na up d w).cell? ⟨w.heap.size + 1, 0, none⟩ = some (.string na) ∧ (four rb na up d w).cell? ⟨w.heap.size + 2, 0, none⟩ = some (.bool up) ∧ (four rb na up d w).cell? ⟨w.heap.size + 3, 0, none⟩ = some (.int .i32 d) := by
  unfold four
  refine ⟨((((Below.refl _ w).alloc (Nat.le_refl _) _).alloc (by simp) _).alloc (by simp; omega) _).alloc (by simp; omega) _, by simp, ?_, ?_, ?_, ?_⟩ <;> go_simp

set_option maxRecDepth 100000 in
set_option maxHeartbeats 4000000 in
theorem reach_in {ok ok' : Nat → Prop} (rb c : Nat) (L : List Rel) (d : Int) (up : Bool) (fv : Value) (w : World) (h : Reg ok w rb L) (hc : c < 7) (hd : d ≠ 0) (hf : Strs ok' w fv [nameOf c]) :
    CallsIn Fence.wide 10 Ybaf.prog 43 #[.pointer (some ⟨rb, 0, none⟩), fv, .bool up, .int .i32 d, .nilFunc] w fun e w' => ∃ bm T n, e = .returned (.map (some bm)) ∧ w.heap.size ≤ bm ∧ CP L d up c T T.length n ∧
      MapIs nameOf 7 w' bm T.length (.int .i64 0) (fun q => if q ∈ T then .int .i64 (n q : Nat) else .int .i64 0) (fun q => decide (q ∈ T)) ∧ Below w.heap.size w w' := by
  have H : Hid (Reg (· < w.heap.size) w rb L) := h.keep (fun _ _ hlt => ⟨rfl, hlt⟩) (Nat.le_refl _)
  obtain ⟨fb, foff, fcap, rfl, -, hfb, hfc⟩ := Row.cell hf (by simp)
  have f0 : w.cell? ⟨fb, foff, none⟩ = some (.string (nameOf c)) := hfc 0 _ rfl
  clear h hf hfc
  have hmm := @run_makeMap Ybaf.prog
  refine callsIn_of_wp_marks Ybaf.func43 rfl trivial ?_ rfl
  simp only [Ybaf.ntmps43, List.size_toArray, List.length_cons, List.length_nil, Nat.reduceAdd, Nat.reduceSub, Array.replicate_succ, Array.replicate_zero, List.push_toArray, List.append_toArray, List.nil_append, List.cons_append]
  have hst := fun W (hW : MapIs nameOf 7 W (w.heap.size + 1) 0 (.int .i64 0) (fun _ => .int .i64 0) (fun _ => false)) => hW.store nameOf_inj Ybaf.underlying69 (by unfold maxLen; omega) hc (nameOf_size c) (.int .i64 0)
  gi_wp2_with fail
  have hbl0 : Below w.heap.size w (((w.alloc (.cells #[.nilFunc] 100)).alloc (.map #[] 0)).alloc (.cells #[.map (some (w.heap.size + 1))] 69)) := (((Below.refl _ w).alloc (Nat.le_refl _) _).alloc (by simp) _).alloc (by simp; omega) _
  have hB9 : Boxed (((w.alloc (.cells #[.nilFunc] 100)).alloc (.map #[] 0)).alloc (.cells #[.map (some (w.heap.size + 1))] 69)) w.heap.size 100 .nilFunc := ((Boxed.new w 100 .nilFunc).alloc _).alloc _
  have hB11 : Boxed (((w.alloc (.cells #[.nilFunc] 100)).alloc (.map #[] 0)).alloc (.cells #[.map (some (w.heap.size + 1))] 69)) (w.heap.size + 2) 69 (.map (some (w.heap.size + 1))) := by
    have := Boxed.new ((w.alloc (.cells #[.nilFunc] 100)).alloc (.map #[] 0)) 69 (.map (some (w.heap.size + 1)))
    simpa using this
  have hM0 : MapIs nameOf 7 (((w.alloc (.cells #[.nilFunc] 100)).alloc (.map #[] 0)).alloc (.cells #[.map (some (w.heap.size + 1))] 69)) (w.heap.size + 1) 0 (.int .i64 0) (fun _ => .int .i64 0) (fun _ => false) := by
    have := (mapIs_made nameOf 7 (w.alloc (.cells #[.nilFunc] 100)) (.int .i64 0)).kept (World.grownBy_alloc _ (.cells #[.map (some (w.heap.size + 1))] 69) none) (by simp)
    simpa using this
  have hs0 : (((w.alloc (.cells #[.nilFunc] 100)).alloc (.map #[] 0)).alloc (.cells #[.map (some (w.heap.size + 1))] 69)).heap.size = w.heap.size + 3 := by simp
  generalize (((w.alloc (.cells #[.nilFunc] 100)).alloc (.map #[] 0)).alloc (.cells #[.map (some (w.heap.size + 1))] 69)) = w0 at *
  obtain ⟨w1, hrun1, hM1, hg1⟩ := hst w0 hM0
  have f1 : w0.cell? ⟨fb, foff, none⟩ = some (.string (nameOf c)) := (hbl0.cell hfb).trans f0
  have c11 := hB11.cell
  have hb01 : Below w.heap.size w w1 := hbl0.grown hg1 hbl0.size (fun k e => by cases e; omega)
  have hB9' : Boxed w1 w.heap.size 100 .nilFunc := hB9.kept hg1 (by simp)
  have hB11' : Boxed w1 (w.heap.size + 2) 69 (.map (some (w.heap.size + 1))) := hB11.kept hg1 (by simp)
  have hM1' : MapIs nameOf 7 w1 (w.heap.size + 1) 1 (.int .i64 0) (fun q => if q ∈ [c] then .int .i64 ((0 : Nat) : Int) else .int .i64 0) (fun q => decide (q ∈ [c])) := by
    obtain ⟨D, h1, h2, h3⟩ := hM1
    refine ⟨D, h1, fun q hq => ?_, h3⟩
    rw [(h2 q hq).1, (h2 q hq).2]
    by_cases e : q = c <;> simp [e]
  have HM1 : Hid (MapIs nameOf 7 w1 (w.heap.size + 1) 1 (.int .i64 0) (fun q => if q ∈ [c] then .int .i64 ((0 : Nat) : Int) else .int .i64 0) (fun q => decide (q ∈ [c]))) := hM1'
  have hs1 : w.heap.size + 3 ≤ w1.heap.size := by have := hg1.size; omega
  have HB01 : Hid (Below w.heap.size w w1) := hb01
  have HB9 : Hid (Boxed w1 w.heap.size 100 .nilFunc) := hB9'
  have HB11 : Hid (Boxed w1 (w.heap.size + 2) 69 (.map (some (w.heap.size + 1)))) := hB11'
  have HCl : Hid (Calls Ybaf.prog 22 #[.slice (some ⟨fb, foff, none⟩) (1 : Nat) fcap] w1 fun e w' => ∃ v', e = .returned v' ∧ w'.ownsRow w1.heap.size 9 1 v' 1 [.string (nameOf c)] ∧ v' ≠ .slice none 0 0 ∧ Below w1.heap.size w1 w') :=
    Ybaf.slices_Clone_string fb foff 1 fcap [nameOf c] w1 (by simp) (by omega) (fun j hj => by
      have hj0 : j = 0 := by simpa using hj
      subst hj0
      rw [hb01.cell (p := ⟨fb, foff + 0, none⟩) hfb]
      exact f0)
  generalize hnc : nameOf c = nc at *
  have Hnc : Hid (nameOf c = nc) := hnc
  clear hnc hM0 hM1 hM1' hst hb01 hB9' hB11' hg1 hB9 hB11 hbl0 hmm
  refine wpIn_loop_rounds 2 ?_
  rw [roundsIn_succ]
  gi_wp2_with fail
  rw [roundsIn_succ]
  gi_wp2_with fail
  refine ⟨trivial, (callsIn_wide.2 HCl.out).mono ?_⟩
  rintro e w2 ⟨v31, rfl, hown2, -, hb2⟩
  have hcs0 : CS w w.heap.size (w.heap.size + 1) (w.heap.size + 1 + 1) w2.heap.size [c] 0 (fun _ => 0) (w2.alloc (.cells #[v31] 47)) v31 := by
    have hsz2 := hb2.size
    have hq : Que w.heap.size w2 v31 [c] := by
      have := que_of_owns (B := w1.heap.size) (W := w2) (v := v31) (ps := [c]) (by rw [List.map_cons, List.map_nil, Hnc.out]; exact hown2) (by simp)
      obtain ⟨a1, a2, a3, e1, e2, e3, e4, e5, e6⟩ := this
      exact ⟨a1, a2, a3, e1, e2, by omega, e4, e5, e6⟩
    have hlt : ∀ g, v31.ownBlock = some g → w1.heap.size ≤ g ∧ g < w2.heap.size := fun g hg => hown2.lt g hg
    refine ⟨(HB01.out.trans (hb2.mono HB01.out.size)).alloc (by omega) _, Nat.le_refl _, by omega, by omega, by omega, ?_, ?_, Boxed.new _ _ _, ?_, ?_, ?_, ⟨by omega, by omega⟩⟩
    · exact (HB9.out.kept (grown_of_below hb2) (by simp)).alloc _
    · exact (HB11.out.kept (grown_of_below hb2) (by simp)).alloc _
    · exact hq.keep (fun g _ hlt => Below.heap_alloc _ _ _ hlt) (by simp)
    · exact (HM1.out.kept (grown_of_below hb2) (by simp)).kept (World.grownBy_alloc _ _ none) (by simp)
    · intro g hg
      have := hlt g hg
      exact ⟨by omega, by omega, by omega, by omega⟩
  obtain ⟨g0, cap0, rfl, -, -⟩ := hown2.form (by omega)
  have HCS0 : Hid _ := hcs0
  clear hcs0 hown2 hb2 HM1 HB01 HB9 HB11 HCl f1 c11 hrun1
  gi_wp2_with fail
  refine wpIn_loop_ghost (fun m a W => ∃ (p b14 : Nat) (T : List Nat) (n : Nat → Nat) (ds : List Deferred) (qv : Value) (u12 u13 u15 u16 u17 u18 u19 u20 u21 u22 u23 u24 u25 u26 u27 u28 u29 u30 u31 u32 u33 u34 u35 u36 u37 u38 u39 u40 u41 u42 u43 u44 u45 u46 u47 u48 u49 u50 u51 u52 u53 u54 u55 u56 u57 u58 u59 u60 u61 u62 u63 u64 u65 u66 u67 u68 u69 u70 u71 u72 u73 u74 u75 u76 u77 u78 u79 u80 u81 u82 u83 : Value), a = { tmps := #[.pointer (some ⟨rb, 0, none⟩), .slice (some ⟨fb, foff, none⟩) (1 : Nat) fcap, .bool up, .int .i32 d, .nilFunc, undef, undef, undef, undef, .pointer (some ⟨w.heap.size, 0, none⟩), .map none, .pointer (some ⟨w.heap.size + 1 + 1, 0, none⟩), u12, u13, .pointer (some ⟨b14, 0, none⟩), u15, u16, u17, u18, u19, u20, u21, u22, u23, u24, u25, u26, u27, u28, u29, u30, u31, u32, u33, u34, u35, u36, u37, u38, u39, u40, u41, u42, u43, u44, u45, u46, u47, u48, u49, u50, u51, u52, u53, u54, u55, u56, u57, u58, u59, u60, u61, u62, u63, u64, u65, u66, u67, u68, u69, u70, u71, u72, u73, u74, u75, u76, u77, u78, u79, u80, u81, u82, u83], defers := ds } ∧ m + p = 8 ∧ CP L d up c T p n ∧ CS w w.heap.size (w.heap.size + 1) (w.heap.size + 1 + 1) b14 T p n W qv ∧ Marks w.heap.size W.heap.size ds W) 8 ?start ?round
  case start =>
    refine ⟨0, w2.heap.size, [c], fun _ => 0, [], .slice (some ⟨g0, 0, none⟩) 1 cap0, ?_⟩
    (repeat apply Exists.intro)
    exact ⟨rfl, rfl, CP.start L d up c hc, HCS0.out, [], rfl, by simp, by simp⟩
  case round =>
    intro m a0 wr hinv
    obtain ⟨p, hinv⟩ := hinv
    obtain ⟨b14, hinv⟩ := hinv
    obtain ⟨T, hinv⟩ := hinv
    obtain ⟨n, hinv⟩ := hinv
    obtain ⟨ds, hinv⟩ := hinv
    obtain ⟨qv, hinv⟩ := hinv
    obtain ⟨u12, hinv⟩ := hinv
    obtain ⟨u13, hinv⟩ := hinv
    obtain ⟨u15, hinv⟩ := hinv
    obtain ⟨u16, hinv⟩ := hinv
    obtain ⟨u17, hinv⟩ := hinv
    obtain ⟨u18, hinv⟩ := hinv
    obtain ⟨u19, hinv⟩ := hinv
    obtain ⟨u20, hinv⟩ := hinv
    obtain ⟨u21, hinv⟩ := hinv
    obtain ⟨u22, hinv⟩ := hinv
    obtain ⟨u23, hinv⟩ := hinv
    obtain ⟨u24, hinv⟩ := hinv
    obtain ⟨u25, hinv⟩ := hinv
    obtain ⟨u26, hinv⟩ := hinv
    obtain ⟨u27, hinv⟩ := hinv
    obtain ⟨u28, hinv⟩ := hinv
    obtain ⟨u29, hinv⟩ := hinv
    obtain ⟨u30, hinv⟩ := hinv
    obtain ⟨u31, hinv⟩ := hinv
    obtain ⟨u32, hinv⟩ := hinv
    obtain ⟨u33, hinv⟩ := hinv
    obtain ⟨u34, hinv⟩ := hinv
    obtain ⟨u35, hinv⟩ := hinv
    obtain ⟨u36, hinv⟩ := hinv
    obtain ⟨u37, hinv⟩ := hinv
    obtain ⟨u38, hinv⟩ := hinv
    obtain ⟨u39, hinv⟩ := hinv
    obtain ⟨u40, hinv⟩ := hinv
    obtain ⟨u41, hinv⟩ := hinv
    obtain ⟨u42, hinv⟩ := hinv
    obtain ⟨u43, hinv⟩ := hinv
    obtain ⟨u44, hinv⟩ := hinv
    obtain ⟨u45, hinv⟩ := hinv
    obtain ⟨u46, hinv⟩ := hinv
    obtain ⟨u47, hinv⟩ := hinv
    obtain ⟨u48, hinv⟩ := hinv
    obtain ⟨u49, hinv⟩ := hinv
    obtain ⟨u50, hinv⟩ := hinv
    obtain ⟨u51, hinv⟩ := hinv
    obtain ⟨u52, hinv⟩ := hinv
    obtain ⟨u53, hinv⟩ := hinv
    obtain ⟨u54, hinv⟩ := hinv
    obtain ⟨u55, hinv⟩ := hinv
    obtain ⟨u56, hinv⟩ := hinv
    obtain ⟨u57, hinv⟩ := hinv
    obtain ⟨u58, hinv⟩ := hinv
    obtain ⟨u59, hinv⟩ := hinv
    obtain ⟨u60, hinv⟩ := hinv
    obtain ⟨u61, hinv⟩ := hinv
    obtain ⟨u62, hinv⟩ := hinv
    obtain ⟨u63, hinv⟩ := hinv
    obtain ⟨u64, hinv⟩ := hinv
    obtain ⟨u65, hinv⟩ := hinv
    obtain ⟨u66, hinv⟩ := hinv
    obtain ⟨u67, hinv⟩ := hinv
    obtain ⟨u68, hinv⟩ := hinv
    obtain ⟨u69, hinv⟩ := hinv
    obtain ⟨u70, hinv⟩ := hinv
    obtain ⟨u71, hinv⟩ := hinv
    obtain ⟨u72, hinv⟩ := hinv
    obtain ⟨u73, hinv⟩ := hinv
    obtain ⟨u74, hinv⟩ := hinv
    obtain ⟨u75, hinv⟩ := hinv
    obtain ⟨u76, hinv⟩ := hinv
    obtain ⟨u77, hinv⟩ := hinv
    obtain ⟨u78, hinv⟩ := hinv
    obtain ⟨u79, hinv⟩ := hinv
    obtain ⟨u80, hinv⟩ := hinv
    obtain ⟨u81, hinv⟩ := hinv
    obtain ⟨u82, hinv⟩ := hinv
    obtain ⟨u83, hinv⟩ := hinv
    obtain ⟨ha0, hm, hcp, hcs, hmk⟩ := hinv
    subst ha0
    have hT7 := hcp.len
    obtain ⟨g, off, cap, hqe, hqc, hqB, hqlt, hqcells, hqroom⟩ := hcs.que
    have e14 := hcs.h14.cell
    have e11 := hcs.h11.cell
    have l14 := hcs.h14.lt
    have l11 := hcs.h11.lt
    by_cases hlt : p < T.length
    · obtain ⟨ql, hql⟩ : ∃ ql, (T.drop p).length = ql := ⟨_, rfl⟩
      have hqp : 0 < ql := by rw [← hql]; simp; omega
      have hq7 : ql ≤ 7 := by rw [← hql]; simp; omega
      rw [hql] at hqe
      subst hqe
      have ha : T.getD p 0 ∈ T := by simp [List.getD, List.getElem?_eq_getElem hlt]
      have ha7 := hcp.lt _ ha
      have hna7 := hcp.small _ ha
      have q0 : wr.cell? ⟨g, off, none⟩ = some (.string (nameOf (T.getD p 0))) := by
        have := hqcells 0 (by omega)
        rw [Nat.add_zero] at this
        rw [this]
        simp [List.getD]
      have hq0 := name_eq0 _ ha7
      have HL0 : (Instr.lookup 69 (.map (some (w.heap.size + 1))) (.string (nameOf (T.getD p 0))) false).run Ybaf.prog (wr.alloc (.cells #[.string (nameOf (T.getD p 0))] 9)) = .ok (.int .i64 (n (T.getD p 0) : Nat)) (wr.alloc (.cells #[.string (nameOf (T.getD p 0))] 9)) := by
        have := (hcs.map.kept (World.grownBy_alloc wr (.cells #[.string (nameOf (T.getD p 0))] 9) none) (by simp)).look Ybaf.underlying69 (zero3 _) ha7 (nameOf_size _)
        rw [this, if_pos ha]
      have hz := hcp.zero _ ha
      have HCS : Hid (CS w w.heap.size (w.heap.size + 1) (w.heap.size + 1 + 1) b14 T p n wr (.slice (some ⟨g, off, none⟩) ql cap)) := hcs
      have HCP : Hid (CP L d up c T p n) := hcp
      have HMK : Hid (Marks w.heap.size wr.heap.size ds wr) := hmk
      have Hlt : Hid (p < T.length) := hlt
      have HQ : Hid ((T.drop p).length = ql) := hql
      clear hqcells hqroom hcs hcp hmk hql
      generalize hae : T.getD p 0 = a at *
      have Hae : Hid (T.getD p 0 = a) := hae
      have Ha : Hid (a ∈ T) := ha
      have Hz : Hid (n a = 0 ↔ a = c) := hz
      clear hae ha hz
      generalize hnae : nameOf a = na at *
      have Hna : Hid (nameOf a = na) := hnae
      clear hnae
      cases ha0 : (a == 0)
      · rw [ha0] at hq0
        have Hcond : Hid (a ≠ 0 ∨ a = c) := .inl (by simpa using ha0)
        clear ha0
        gi_wp2_with fail
        refine ⟨trivial, (callsIn_wide.2 (controls_any _ _ _ _ _)).mono ?_⟩
        rintro e w3 ⟨rfl, hw3⟩
        have hff := four_facts rb na up d (wr.alloc (.cells #[.string na] 9))
        rw [show four rb na up d (wr.alloc (.cells #[.string na] 9)) = w3 from hw3.symm] at hff
        clear hw3
        obtain ⟨hb3, hs3, k1, k2, k3, k4⟩ := hff
        rw [show (wr.alloc (.cells #[.string na] 9)).heap.size = wr.heap.size + 1 by simp] at hs3 k1 k2 k3 k4
        have hRI : RI w w.heap.size (w.heap.size + 1) (w.heap.size + 1 + 1) b14 wr.heap.size p (nUp T n a) ds a w3 T w3 (.slice (some ⟨g, off, none⟩) ql cap) := by
          have hcs3 := (HCS.out.alloc (.cells #[.string na] 9)).below hb3
          refine ⟨hcs3.nup a, Hlt.out, ?_, fun _ _ _ => rfl, by omega, fun g' e => .inl (HCS.out.que.lt e).2, HMK.out.keep (Nat.le_refl _) (fun D _ hD _ => (hb3.block D (by simp; omega)).trans (Below.heap_alloc _ _ _ hD)), ⟨HCS.out.h9.lt, HCS.out.map.lt, HCS.out.h11.lt, HCS.out.h14.lt⟩, HCS.out.bel.size⟩
          rw [Hna.out]
          exact (Boxed.new wr 9 (.string na)).kept (grown_of_below hb3) (by simp)
        have hbw3 : Below w.heap.size w w3 := hRI.cs.bel
        have HRI : Hid (RI w w.heap.size (w.heap.size + 1) (w.heap.size + 1 + 1) b14 wr.heap.size p (nUp T n a) ds a w3 T w3 (.slice (some ⟨g, off, none⟩) ql cap)) := hRI
        have HR3 : Hid (Reg (· < w.heap.size) w3 rb L) := H.out.below hbw3
        have K1 : Hid (w3.cell? ⟨wr.heap.size + 1, 0, none⟩ = some (.pointer (some ⟨rb, 0, none⟩))) := k1
        have K2 : Hid (w3.cell? ⟨wr.heap.size + 1 + 1, 0, none⟩ = some (.string (nameOf a))) := by rw [Hna.out]; exact k2
        have K3 : Hid (w3.cell? ⟨wr.heap.size + 1 + 2, 0, none⟩ = some (.bool up)) := k3
        have K4 : Hid (w3.cell? ⟨wr.heap.size + 1 + 3, 0, none⟩ = some (.int .i32 d)) := k4
        clear hRI hbw3 hb3 k1 k2 k3 k4 HL0 q0 e11 e14
        gi_wp2_with fail
        refine wpIn_rangeFunc_ownG (α := Nat × Fin 7) rfl (by decide) (gf := 64) (lb := #[.pointer (some ⟨wr.heap.size + 1, 0, none⟩), .pointer (some ⟨wr.heap.size + 1 + 1, 0, none⟩), .pointer (some ⟨wr.heap.size + 1 + 2, 0, none⟩), .pointer (some ⟨wr.heap.size + 1 + 3, 0, none⟩)]) rfl trivial (enters_of Ybaf.func64 (by kernel_rfl) rfl)
          (encs := fun x => #[.int .i64 (x.1 : Nat), .string (nameOf x.2.val)]) (Kp := Kept w.heap.size (wr.heap.size + 1)) (S := fun xs => xs = outs L d up a) (Sp := fun _ => True) (N := 32) (w0 := w3) ?seq Kept.trans ?kb (Below.refl _ _) (fun _ => rfl)
          (fun pre W => ∃ qv, RI w w.heap.size (w.heap.size + 1) (w.heap.size + 1 + 1) b14 wr.heap.size p (nUp T n a) ds a w3 (visit T (pre.map (·.2.val))) W qv) (fun _ _ _ => False) ?own (fun _ _ _ _ _ h _ _ => h) ⟨_, HRI.out⟩
          (fun x => { tmps := #[.pointer (some ⟨rb, 0, none⟩), .slice (some ⟨fb, foff, none⟩) (1 : Nat) fcap, .bool up, .int .i32 d, .nilFunc, undef, undef, undef, undef, .pointer (some ⟨w.heap.size, 0, none⟩), .map none, .pointer (some ⟨w.heap.size + 1 + 1, 0, none⟩), u12, u13, .pointer (some ⟨b14, 0, none⟩), .pointer (some ⟨wr.heap.size, 0, none⟩), u16, .string (nameOf x.2.val), u18, u19, u20, u21, u22, u23, u24, u25, u26, u27, u28, u29, u30, u31, .slice (some ⟨g, off, none⟩) ql cap, .int .i64 (ql : Nat), .bool true, u35, u36, .slice (some ⟨g, off, none⟩) ql cap, .pointer (some ⟨g, off, none⟩), .string na, .string na, .bool false, .bool false, undef, undef, undef, undef, .bool false, .pointer (some ⟨rb, 0, none⟩), .string na, .bool up, .int .i32 d, .func (.func 64) #[] #[.pointer (some ⟨wr.heap.size + 1, 0, none⟩), .pointer (some ⟨wr.heap.size + 1 + 1, 0, none⟩), .pointer (some ⟨wr.heap.size + 1 + 2, 0, none⟩), .pointer (some ⟨wr.heap.size + 1 + 3, 0, none⟩)], .int .i64 (x.1 : Nat), .string (nameOf x.2.val), u55, u56, u57, u58, u59, u60, u61, u62, u63, u64, u65, u66, u67, u68, u69, u70, u71, u72, u73, u74, u75, u76, u77, u78, u79, u80, u81, u82, u83], defers := [] }) ?assign ?body ?done ?stop
        case seq =>
          intro l J Jx W hW hJ hJx hY h0
          exact iter_in l w.heap.size (wr.heap.size + 1) rb a up L d hd ha7 J Jx W (fun pre A A' hj hb => hJ pre A A' none hj (grown_of_below hb) (fun r e => by cases e)) hY (HR3.out.below (hW.mono HRI.out.cs.bel.size)) (Nat.le_trans HRI.out.cs.bel.size hW.size) (by have := hW.size; omega)
            ((hW.cell (p := ⟨wr.heap.size + 1, 0, none⟩) (by show wr.heap.size + 1 < _; omega)).trans K1.out) ((hW.cell (p := ⟨wr.heap.size + 1 + 1, 0, none⟩) (by show wr.heap.size + 1 + 1 < _; omega)).trans K2.out) ((hW.cell (p := ⟨wr.heap.size + 1 + 2, 0, none⟩) (by show wr.heap.size + 1 + 2 < _; omega)).trans K3.out) ((hW.cell (p := ⟨wr.heap.size + 1 + 3, 0, none⟩) (by show wr.heap.size + 1 + 3 < _; omega)).trans K4.out) h0
        case kb =>
          intro W l o o' hl ho _ _
          refine ⟨by simp, fun k hk => World.putObj_heap_other (fun e => ?_)⟩
          have := HRI.out.cs.bel.size
          omega
        case own =>
          rintro pre A A' row ⟨qv, hri⟩ hg hr
          exact ⟨qv, hri.far hg (fun r e => by rw [hs3] at hr; exact hr r e)⟩
        case assign =>
          intro l x W K hK
          gi_wp2
          exact hK
        case body =>
          rintro l pre x W ⟨qv, hri⟩ hpl
          have hvs : visit T ((pre ++ [x]).map (·.2.val)) = if x.2.val ∈ visit T (pre.map (·.2.val)) then visit T (pre.map (·.2.val)) else visit T (pre.map (·.2.val)) ++ [x.2.val] := by
            rw [List.map_append]
            exact visit_snoc T (pre.map (·.2.val)) x.2.val
          have Hvs : Hid (visit T ((pre ++ [x]).map (·.2.val)) = if x.2.val ∈ visit T (pre.map (·.2.val)) then visit T (pre.map (·.2.val)) else visit T (pre.map (·.2.val)) ++ [x.2.val]) := hvs
          have haT : a ∈ visit T (pre.map (·.2.val)) := (visit_mem _ _ _).2 (.inl Ha.out)
          have hoT : x.2.val ∉ visit T (pre.map (·.2.val)) → nUp T n a x.2.val = n a + 1 := fun h => if_neg (fun h' => h ((visit_mem _ _ _).2 (.inl h')))
          have hnaT : nUp T n a a = n a := if_pos Ha.out
          have HRI2 : Hid (RI w w.heap.size (w.heap.size + 1) (w.heap.size + 1 + 1) b14 wr.heap.size p (nUp T n a) ds a w3 (visit T (pre.map (·.2.val))) W qv) := hri
          have f11 := hri.cs.h11.cell
          have f9 := hri.cs.h9.cell
          have f15 := hri.at15.cell
          rw [Hna.out] at f15
          have g11 := hri.cs.h11.lt
          have g9 := hri.cs.h9.lt
          have g15 := hri.at15.lt
          have g14 := hri.cs.h14.lt
          have hvl : (visit T (pre.map (·.2.val))).length ≤ 7 := nodup_len 7 _ (visit_nodup _ _ HCP.out.nodup) (fun q hq => by
            rcases (visit_mem _ _ _).1 hq with h | h
            · exact HCP.out.lt q h
            · obtain ⟨y, _, rfl⟩ := List.mem_map.1 h
              exact y.2.isLt)
          have hl1 := hri.cs.map.lookOk Ybaf.underlying69 (zero3 W) x.2.isLt (nameOf_size x.2.val)
          have hl2 := hri.cs.map.look Ybaf.underlying69 (zero3 W) ha7 (nameOf_size a)
          rw [if_pos haT, hnaT, Hna.out] at hl2
          by_cases hin : x.2.val ∈ visit T (pre.map (·.2.val))
          · rw [if_pos hin, decide_eq_true hin] at hl1
            have hfin : Hid (RI w w.heap.size (w.heap.size + 1) (w.heap.size + 1 + 1) b14 wr.heap.size p (nUp T n a) ds a w3 (visit T ((pre ++ [x]).map (·.2.val))) W qv) := by
              show RI ..
              rw [Hvs.out, if_pos hin]
              exact HRI2.out
            clear hri hvs haT hoT hnaT hin
            generalize nameOf x.2.val = no at *
            gi_wp2_with fail
            all_goals try exact (undef_ne (by assumption)).elim
            refine ⟨fun _ h => (by cases h), ?_⟩
            gi_wp2_with fail
            all_goals try exact (undef_ne (by assumption)).elim
            exact ⟨KeepsFrom.refl _ _, Kept.refl _ _ _, qv, hfin.out⟩
          · rw [if_neg hin, decide_eq_false hin] at hl1
            obtain ⟨W1, hst1, hM1, hg1⟩ := hri.cs.map.store nameOf_inj Ybaf.underlying69 (by unfold maxLen; omega) x.2.isLt (nameOf_size x.2.val) (.int .i64 ((n a : Int) + 1))
            have hbm : some b14 ≠ some (w.heap.size + 1) := fun e => by
              obtain ⟨es, cl, hb⟩ := mapIs_obj hri.cs.map
              have := hri.cs.h14
              unfold Boxed at this
              cases e
              rw [hb] at this
              cases this
            have hB14 := hri.cs.h14.kept hg1 hbm
            have e14 := hB14.cell
            have hq1 : Que w.heap.size W1 qv ((visit T (pre.map (·.2.val))).drop p) := hri.cs.que.keep (fun g' e hl => hg1.block g' hl (fun e' => (hri.cs.ne g' e).2.2.2 (by cases e'; rfl))) hg1.size
            obtain ⟨g', off', cap', Wg, hrun2, hq2, hg2, hat2⟩ := hq1.append x.2.val 47 (by simp; omega) (Nat.le_trans hri.cs.bel.size hg1.size)
            have hB14g := (hB14.alloc (.cells #[.string (nameOf x.2.val)] 9)).kept hg2 (fun e => (hri.cs.ne b14 e.symm).2.2.1 rfl)
            have e14g := hB14g.cell
            have f14g := hB14g.frozen
            have hfin := hri.add hin (hoT hin) (by
              obtain ⟨D, m1, m2, m3⟩ := hM1
              refine ⟨D, m1, fun q hq => ?_, m3⟩
              rw [(m2 q hq).1, (m2 q hq).2]
              exact ⟨rfl, rfl⟩) hg1 hq2 hg2 hat2
            obtain ⟨vl, hvle⟩ : ∃ vl, ((visit T (pre.map (·.2.val))).drop p).length = vl := ⟨_, rfl⟩
            rw [hvle] at hfin hrun2
            have Hfin : Hid _ := hfin
            have Hin : Hid (x.2.val ∉ visit T (pre.map (·.2.val))) := hin
            have hgl1 := hg1.size
            have hgl2 := hg2.size
            clear hri hvs haT hoT hnaT hin hfin hM1 hg1 hq1 hq2 hg2 hat2 hbm hB14 hB14g hvle
            generalize hno : nameOf x.2.val = no at *
            have Hno : Hid (nameOf x.2.val = no) := hno
            clear hno
            have hnq := neq100
            gi_wp2_with (gi_at_builtin; refine wpListIn_append_eq _ rfl _ _ 47 rfl _ _ rfl rfl _ _ hrun2 ?_)
            all_goals try exact (undef_ne (by assumption)).elim
            refine ⟨fun _ h => (by cases h), ?_⟩
            gi_wp2_with (gi_at_builtin; refine wpListIn_append_eq _ rfl _ _ 47 rfl _ _ rfl rfl _ _ hrun2 ?_)
            all_goals try exact (undef_ne (by assumption)).elim
            refine ⟨by rw [hs3]; exact Hfin.out.2.1, Hfin.out.2.2, ?_⟩
            show ∃ qv, RI _ _ _ _ _ _ _ _ _ _ _ (visit T ((pre ++ [x]).map (·.2.val))) _ qv
            rw [Hvs.out, if_neg Hin.out]
            exact ⟨_, Hfin.out.1⟩
        case done =>
          rintro D xs W hD rfl ⟨qv, hri⟩ hK
          have f14 := hri.cs.h14.cell
          have g14 := hri.cs.h14.lt
          obtain ⟨g', off', cap', hqe, hqc', hqB', hqlt', hqcells', hqroom'⟩ := hri.cs.que
          obtain ⟨ql', hql'⟩ : ∃ ql', ((visit T ((outs L d up a).map (·.2.val))).drop p).length = ql' := ⟨_, rfl⟩
          rw [hql'] at hqe hqc'
          subst hqe
          have hvl : (visit T ((outs L d up a).map (·.2.val))).length ≤ 7 := nodup_len 7 _ (visit_nodup _ _ HCP.out.nodup) (fun q hq => by
            rcases (visit_mem _ _ _).1 hq with h | h
            · exact HCP.out.lt q h
            · obtain ⟨y, _, rfl⟩ := List.mem_map.1 h
              exact y.2.isLt)
          have hqp' : 0 < ql' := by rw [← hql']; have := hri.pos; simp; omega
          have hq7' : ql' ≤ 7 := by rw [← hql']; simp; omega
          have HQ1 : Hid (Que w.heap.size W (.slice (some ⟨g', off' + 1, none⟩) (ql' - 1) (cap' - 1)) ((visit T ((outs L d up a).map (·.2.val))).drop (p + 1))) := hri.cs.que.pop1 hql' hri.pos
          have HQ0 : Hid (cap' ≤ 1 → Que w.heap.size W (.slice (some ⟨g', off', none⟩) (ql' - 1) 0) ((visit T ((outs L d up a).map (·.2.val))).drop (p + 1))) := fun hc => hri.cs.que.pop0 hql' hc
          have HRI2 : Hid (RI w w.heap.size (w.heap.size + 1) (w.heap.size + 1 + 1) b14 wr.heap.size p (nUp T n a) ds a w3 (visit T ((outs L d up a).map (·.2.val))) W (.slice (some ⟨g', off', none⟩) ql' cap')) := hri
          have HNX : Hid (CP L d up c (visit T ((outs L d up a).map (·.2.val))) (p + 1) (nUp T n a)) := by
            have := HCP.out.next Hlt.out (by rw [Hae.out]; exact Hcond.out)
            rw [Hae.out] at this
            exact this
          rw [hs3] at hD
          clear hri hqcells' hqroom'
          gi_wp2_with fail
          case inl =>
            have hfin := HRI2.out.finish _ (HQ0.out (by omega)) (fun _ h => h) D hD hK
            simp only [World.size_alloc] at hfin
            exact ⟨m - 1, by omega, p + 1, W.heap.size, _, _, _, ⟨rfl, rfl⟩, by omega, HNX.out, ⟨_, hfin.1⟩, hfin.2⟩
          case inr =>
            have hfin := HRI2.out.finish _ HQ1.out (fun _ h => h) D hD hK
            simp only [World.size_alloc] at hfin
            exact ⟨m - 1, by omega, p + 1, W.heap.size, _, _, _, ⟨rfl, rfl⟩, by omega, HNX.out, ⟨_, hfin.1⟩, hfin.2⟩
        case stop =>
          rintro D c' pre W _ _ h _
          exact h.elim
      · rw [ha0] at hq0
        have Ha00 : Hid (a = 0) := by show a = 0; simpa using ha0
        clear ha0
        by_cases hn0 : n a = 0
        · rw [hn0] at HL0
          have Hcond : Hid (a ≠ 0 ∨ a = c) := .inr (Hz.out.1 hn0)
          have Hn0 : Hid (n a = 0) := hn0
          clear hn0
          gi_wp2_with fail
          refine ⟨trivial, (callsIn_wide.2 (controls_any _ _ _ _ _)).mono ?_⟩
          rintro e w3 ⟨rfl, hw3⟩
          have hff := four_facts rb na up d (wr.alloc (.cells #[.string na] 9))
          rw [show four rb na up d (wr.alloc (.cells #[.string na] 9)) = w3 from hw3.symm] at hff
          clear hw3
          obtain ⟨hb3, hs3, k1, k2, k3, k4⟩ := hff
          rw [show (wr.alloc (.cells #[.string na] 9)).heap.size = wr.heap.size + 1 by simp] at hs3 k1 k2 k3 k4
          have hRI : RI w w.heap.size (w.heap.size + 1) (w.heap.size + 1 + 1) b14 wr.heap.size p (nUp T n a) ds a w3 T w3 (.slice (some ⟨g, off, none⟩) ql cap) := by
            have hcs3 := (HCS.out.alloc (.cells #[.string na] 9)).below hb3
            refine ⟨hcs3.nup a, Hlt.out, ?_, fun _ _ _ => rfl, by omega, fun g' e => .inl (HCS.out.que.lt e).2, HMK.out.keep (Nat.le_refl _) (fun D _ hD _ => (hb3.block D (by simp; omega)).trans (Below.heap_alloc _ _ _ hD)), ⟨HCS.out.h9.lt, HCS.out.map.lt, HCS.out.h11.lt, HCS.out.h14.lt⟩, HCS.out.bel.size⟩
            rw [Hna.out]
            exact (Boxed.new wr 9 (.string na)).kept (grown_of_below hb3) (by simp)
          have hbw3 : Below w.heap.size w w3 := hRI.cs.bel
          have HRI : Hid (RI w w.heap.size (w.heap.size + 1) (w.heap.size + 1 + 1) b14 wr.heap.size p (nUp T n a) ds a w3 T w3 (.slice (some ⟨g, off, none⟩) ql cap)) := hRI
          have HR3 : Hid (Reg (· < w.heap.size) w3 rb L) := H.out.below hbw3
          have K1 : Hid (w3.cell? ⟨wr.heap.size + 1, 0, none⟩ = some (.pointer (some ⟨rb, 0, none⟩))) := k1
          have K2 : Hid (w3.cell? ⟨wr.heap.size + 1 + 1, 0, none⟩ = some (.string (nameOf a))) := by rw [Hna.out]; exact k2
          have K3 : Hid (w3.cell? ⟨wr.heap.size + 1 + 2, 0, none⟩ = some (.bool up)) := k3
          have K4 : Hid (w3.cell? ⟨wr.heap.size + 1 + 3, 0, none⟩ = some (.int .i32 d)) := k4
          clear hRI hbw3 hb3 k1 k2 k3 k4 HL0 q0 e11 e14
          gi_wp2_with fail
          refine wpIn_rangeFunc_ownG (α := Nat × Fin 7) rfl (by decide) (gf := 64) (lb := #[.pointer (some ⟨wr.heap.size + 1, 0, none⟩), .pointer (some ⟨wr.heap.size + 1 + 1, 0, none⟩), .pointer (some ⟨wr.heap.size + 1 + 2, 0, none⟩), .pointer (some ⟨wr.heap.size + 1 + 3, 0, none⟩)]) rfl trivial (enters_of Ybaf.func64 (by kernel_rfl) rfl)
            (encs := fun x => #[.int .i64 (x.1 : Nat), .string (nameOf x.2.val)]) (Kp := Kept w.heap.size (wr.heap.size + 1)) (S := fun xs => xs = outs L d up a) (Sp := fun _ => True) (N := 32) (w0 := w3) ?seq Kept.trans ?kb (Below.refl _ _) (fun _ => rfl)
            (fun pre W => ∃ qv, RI w w.heap.size (w.heap.size + 1) (w.heap.size + 1 + 1) b14 wr.heap.size p (nUp T n a) ds a w3 (visit T (pre.map (·.2.val))) W qv) (fun _ _ _ => False) ?own (fun _ _ _ _ _ h _ _ => h) ⟨_, HRI.out⟩
            (fun x => { tmps := #[.pointer (some ⟨rb, 0, none⟩), .slice (some ⟨fb, foff, none⟩) (1 : Nat) fcap, .bool up, .int .i32 d, .nilFunc, undef, undef, undef, undef, .pointer (some ⟨w.heap.size, 0, none⟩), .map none, .pointer (some ⟨w.heap.size + 1 + 1, 0, none⟩), u12, u13, .pointer (some ⟨b14, 0, none⟩), .pointer (some ⟨wr.heap.size, 0, none⟩), u16, .string (nameOf x.2.val), u18, u19, u20, u21, u22, u23, u24, u25, u26, u27, u28, u29, u30, u31, .slice (some ⟨g, off, none⟩) ql cap, .int .i64 (ql : Nat), .bool true, u35, u36, .slice (some ⟨g, off, none⟩) ql cap, .pointer (some ⟨g, off, none⟩), .string na, .string na, .bool true, .bool true, .map (some (w.heap.size + 1)), .string na, .int .i64 0, .bool false, .bool false, .pointer (some ⟨rb, 0, none⟩), .string na, .bool up, .int .i32 d, .func (.func 64) #[] #[.pointer (some ⟨wr.heap.size + 1, 0, none⟩), .pointer (some ⟨wr.heap.size + 1 + 1, 0, none⟩), .pointer (some ⟨wr.heap.size + 1 + 2, 0, none⟩), .pointer (some ⟨wr.heap.size + 1 + 3, 0, none⟩)], .int .i64 (x.1 : Nat), .string (nameOf x.2.val), u55, u56, u57, u58, u59, u60, u61, u62, u63, u64, u65, u66, u67, u68, u69, u70, u71, u72, u73, u74, u75, u76, u77, u78, u79, u80, u81, u82, u83], defers := [] }) ?assign ?body ?done ?stop
          case seq =>
            intro l J Jx W hW hJ hJx hY h0
            exact iter_in l w.heap.size (wr.heap.size + 1) rb a up L d hd ha7 J Jx W (fun pre A A' hj hb => hJ pre A A' none hj (grown_of_below hb) (fun r e => by cases e)) hY (HR3.out.below (hW.mono HRI.out.cs.bel.size)) (Nat.le_trans HRI.out.cs.bel.size hW.size) (by have := hW.size; omega)
              ((hW.cell (p := ⟨wr.heap.size + 1, 0, none⟩) (by show wr.heap.size + 1 < _; omega)).trans K1.out) ((hW.cell (p := ⟨wr.heap.size + 1 + 1, 0, none⟩) (by show wr.heap.size + 1 + 1 < _; omega)).trans K2.out) ((hW.cell (p := ⟨wr.heap.size + 1 + 2, 0, none⟩) (by show wr.heap.size + 1 + 2 < _; omega)).trans K3.out) ((hW.cell (p := ⟨wr.heap.size + 1 + 3, 0, none⟩) (by show wr.heap.size + 1 + 3 < _; omega)).trans K4.out) h0
          case kb =>
            intro W l o o' hl ho _ _
            refine ⟨by simp, fun k hk => World.putObj_heap_other (fun e => ?_)⟩
            have := HRI.out.cs.bel.size
            omega
          case own =>
            rintro pre A A' row ⟨qv, hri⟩ hg hr
            exact ⟨qv, hri.far hg (fun r e => by rw [hs3] at hr; exact hr r e)⟩
          case assign =>
            intro l x W K hK
            gi_wp2
            exact hK
          case body =>
            rintro l pre x W ⟨qv, hri⟩ hpl
            have hvs : visit T ((pre ++ [x]).map (·.2.val)) = if x.2.val ∈ visit T (pre.map (·.2.val)) then visit T (pre.map (·.2.val)) else visit T (pre.map (·.2.val)) ++ [x.2.val] := by
              rw [List.map_append]
              exact visit_snoc T (pre.map (·.2.val)) x.2.val
            have Hvs : Hid (visit T ((pre ++ [x]).map (·.2.val)) = if x.2.val ∈ visit T (pre.map (·.2.val)) then visit T (pre.map (·.2.val)) else visit T (pre.map (·.2.val)) ++ [x.2.val]) := hvs
            have haT : a ∈ visit T (pre.map (·.2.val)) := (visit_mem _ _ _).2 (.inl Ha.out)
            have hoT : x.2.val ∉ visit T (pre.map (·.2.val)) → nUp T n a x.2.val = n a + 1 := fun h => if_neg (fun h' => h ((visit_mem _ _ _).2 (.inl h')))
            have hnaT : nUp T n a a = n a := if_pos Ha.out
            have HRI2 : Hid (RI w w.heap.size (w.heap.size + 1) (w.heap.size + 1 + 1) b14 wr.heap.size p (nUp T n a) ds a w3 (visit T (pre.map (·.2.val))) W qv) := hri
            have f11 := hri.cs.h11.cell
            have f9 := hri.cs.h9.cell
            have f15 := hri.at15.cell
            rw [Hna.out] at f15
            have g11 := hri.cs.h11.lt
            have g9 := hri.cs.h9.lt
            have g15 := hri.at15.lt
            have g14 := hri.cs.h14.lt
            have hvl : (visit T (pre.map (·.2.val))).length ≤ 7 := nodup_len 7 _ (visit_nodup _ _ HCP.out.nodup) (fun q hq => by
              rcases (visit_mem _ _ _).1 hq with h | h
              · exact HCP.out.lt q h
              · obtain ⟨y, _, rfl⟩ := List.mem_map.1 h
                exact y.2.isLt)
            have hl1 := hri.cs.map.lookOk Ybaf.underlying69 (zero3 W) x.2.isLt (nameOf_size x.2.val)
            have hl2 := hri.cs.map.look Ybaf.underlying69 (zero3 W) ha7 (nameOf_size a)
            rw [if_pos haT, hnaT, Hna.out] at hl2
            by_cases hin : x.2.val ∈ visit T (pre.map (·.2.val))
            · rw [if_pos hin, decide_eq_true hin] at hl1
              have hfin : Hid (RI w w.heap.size (w.heap.size + 1) (w.heap.size + 1 + 1) b14 wr.heap.size p (nUp T n a) ds a w3 (visit T ((pre ++ [x]).map (·.2.val))) W qv) := by
                show RI ..
                rw [Hvs.out, if_pos hin]
                exact HRI2.out
              clear hri hvs haT hoT hnaT hin
              generalize nameOf x.2.val = no at *
              gi_wp2_with fail
              all_goals try exact (undef_ne (by assumption)).elim
              refine ⟨fun _ h => (by cases h), ?_⟩
              gi_wp2_with fail
              all_goals try exact (undef_ne (by assumption)).elim
              exact ⟨KeepsFrom.refl _ _, Kept.refl _ _ _, qv, hfin.out⟩
            · rw [if_neg hin, decide_eq_false hin] at hl1
              obtain ⟨W1, hst1, hM1, hg1⟩ := hri.cs.map.store nameOf_inj Ybaf.underlying69 (by unfold maxLen; omega) x.2.isLt (nameOf_size x.2.val) (.int .i64 ((n a : Int) + 1))
              have hbm : some b14 ≠ some (w.heap.size + 1) := fun e => by
                obtain ⟨es, cl, hb⟩ := mapIs_obj hri.cs.map
                have := hri.cs.h14
                unfold Boxed at this
                cases e
                rw [hb] at this
                cases this
              have hB14 := hri.cs.h14.kept hg1 hbm
              have e14 := hB14.cell
              have hq1 : Que w.heap.size W1 qv ((visit T (pre.map (·.2.val))).drop p) := hri.cs.que.keep (fun g' e hl => hg1.block g' hl (fun e' => (hri.cs.ne g' e).2.2.2 (by cases e'; rfl))) hg1.size
              obtain ⟨g', off', cap', Wg, hrun2, hq2, hg2, hat2⟩ := hq1.append x.2.val 47 (by simp; omega) (Nat.le_trans hri.cs.bel.size hg1.size)
              have hB14g := (hB14.alloc (.cells #[.string (nameOf x.2.val)] 9)).kept hg2 (fun e => (hri.cs.ne b14 e.symm).2.2.1 rfl)
              have e14g := hB14g.cell
              have f14g := hB14g.frozen
              have hfin := hri.add hin (hoT hin) (by
                obtain ⟨D, m1, m2, m3⟩ := hM1
                refine ⟨D, m1, fun q hq => ?_, m3⟩
                rw [(m2 q hq).1, (m2 q hq).2]
                exact ⟨rfl, rfl⟩) hg1 hq2 hg2 hat2
              obtain ⟨vl, hvle⟩ : ∃ vl, ((visit T (pre.map (·.2.val))).drop p).length = vl := ⟨_, rfl⟩
              rw [hvle] at hfin hrun2
              have Hfin : Hid _ := hfin
              have Hin : Hid (x.2.val ∉ visit T (pre.map (·.2.val))) := hin
              have hgl1 := hg1.size
              have hgl2 := hg2.size
              clear hri hvs haT hoT hnaT hin hfin hM1 hg1 hq1 hq2 hg2 hat2 hbm hB14 hB14g hvle
              generalize hno : nameOf x.2.val = no at *
              have Hno : Hid (nameOf x.2.val = no) := hno
              clear hno
              have hnq := neq100
              gi_wp2_with (gi_at_builtin; refine wpListIn_append_eq _ rfl _ _ 47 rfl _ _ rfl rfl _ _ hrun2 ?_)
              all_goals try exact (undef_ne (by assumption)).elim
              refine ⟨fun _ h => (by cases h), ?_⟩
              gi_wp2_with (gi_at_builtin; refine wpListIn_append_eq _ rfl _ _ 47 rfl _ _ rfl rfl _ _ hrun2 ?_)
              all_goals try exact (undef_ne (by assumption)).elim
              refine ⟨by rw [hs3]; exact Hfin.out.2.1, Hfin.out.2.2, ?_⟩
              show ∃ qv, RI _ _ _ _ _ _ _ _ _ _ _ (visit T ((pre ++ [x]).map (·.2.val))) _ qv
              rw [Hvs.out, if_neg Hin.out]
              exact ⟨_, Hfin.out.1⟩
          case done =>
            rintro D xs W hD rfl ⟨qv, hri⟩ hK
            have f14 := hri.cs.h14.cell
            have g14 := hri.cs.h14.lt
            obtain ⟨g', off', cap', hqe, hqc', hqB', hqlt', hqcells', hqroom'⟩ := hri.cs.que
            obtain ⟨ql', hql'⟩ : ∃ ql', ((visit T ((outs L d up a).map (·.2.val))).drop p).length = ql' := ⟨_, rfl⟩
            rw [hql'] at hqe hqc'
            subst hqe
            have hvl : (visit T ((outs L d up a).map (·.2.val))).length ≤ 7 := nodup_len 7 _ (visit_nodup _ _ HCP.out.nodup) (fun q hq => by
              rcases (visit_mem _ _ _).1 hq with h | h
              · exact HCP.out.lt q h
              · obtain ⟨y, _, rfl⟩ := List.mem_map.1 h
                exact y.2.isLt)
            have hqp' : 0 < ql' := by rw [← hql']; have := hri.pos; simp; omega
            have hq7' : ql' ≤ 7 := by rw [← hql']; simp; omega
            have HQ1 : Hid (Que w.heap.size W (.slice (some ⟨g', off' + 1, none⟩) (ql' - 1) (cap' - 1)) ((visit T ((outs L d up a).map (·.2.val))).drop (p + 1))) := hri.cs.que.pop1 hql' hri.pos
            have HQ0 : Hid (cap' ≤ 1 → Que w.heap.size W (.slice (some ⟨g', off', none⟩) (ql' - 1) 0) ((visit T ((outs L d up a).map (·.2.val))).drop (p + 1))) := fun hc => hri.cs.que.pop0 hql' hc
            have HRI2 : Hid (RI w w.heap.size (w.heap.size + 1) (w.heap.size + 1 + 1) b14 wr.heap.size p (nUp T n a) ds a w3 (visit T ((outs L d up a).map (·.2.val))) W (.slice (some ⟨g', off', none⟩) ql' cap')) := hri
            have HNX : Hid (CP L d up c (visit T ((outs L d up a).map (·.2.val))) (p + 1) (nUp T n a)) := by
              have := HCP.out.next Hlt.out (by rw [Hae.out]; exact Hcond.out)
              rw [Hae.out] at this
              exact this
            rw [hs3] at hD
            clear hri hqcells' hqroom'
            gi_wp2_with fail
            case inl =>
              have hfin := HRI2.out.finish _ (HQ0.out (by omega)) (fun _ h => h) D hD hK
              simp only [World.size_alloc] at hfin
              exact ⟨m - 1, by omega, p + 1, W.heap.size, _, _, _, ⟨rfl, rfl⟩, by omega, HNX.out, ⟨_, hfin.1⟩, hfin.2⟩
            case inr =>
              have hfin := HRI2.out.finish _ HQ1.out (fun _ h => h) D hD hK
              simp only [World.size_alloc] at hfin
              exact ⟨m - 1, by omega, p + 1, W.heap.size, _, _, _, ⟨rfl, rfl⟩, by omega, HNX.out, ⟨_, hfin.1⟩, hfin.2⟩
          case stop =>
            rintro D c' pre W _ _ h _
            exact h.elim
        · have hnp : 0 < n a := by omega
          have Hskip : Hid (CP L d up c T (p + 1) n) := HCP.out.skip Hlt.out (by rw [Hae.out]; exact ⟨Ha00.out, fun e => hn0 (Hz.out.2 e)⟩)
          have HCA : Hid (CS w w.heap.size (w.heap.size + 1) (w.heap.size + 1 + 1) b14 T p n (wr.alloc (.cells #[.string na] 9)) (.slice (some ⟨g, off, none⟩) ql cap)) := HCS.out.alloc _
          have HQ1 : Hid (Que w.heap.size (wr.alloc (.cells #[.string na] 9)) (.slice (some ⟨g, off + 1, none⟩) (ql - 1) (cap - 1)) (T.drop (p + 1))) := HCA.out.que.pop1 HQ.out Hlt.out
          have HQ0 : Hid (cap ≤ 1 → Que w.heap.size (wr.alloc (.cells #[.string na] 9)) (.slice (some ⟨g, off, none⟩) (ql - 1) 0) (T.drop (p + 1))) := fun hc => HCA.out.que.pop0 HQ.out hc
          clear hn0
          gi_wp2_with fail
          case inl =>
            have hfin := HCA.out.finish _ (HQ0.out (by omega)) (fun _ h => h)
            have hmk2 := (HMK.out.alloc (.cells #[.string na] 9)).alloc (.cells #[.slice (some ⟨g, off, none⟩) (ql - 1) 0] 47)
            simp only [World.size_alloc] at hfin hmk2
            exact ⟨m - 1, by omega, p + 1, wr.heap.size + 1, T, n, ds, ⟨rfl, rfl⟩, by omega, Hskip.out, ⟨_, hfin⟩, hmk2⟩
          case inr =>
            have hfin := HCA.out.finish _ HQ1.out (fun _ h => h)
            have hmk2 := (HMK.out.alloc (.cells #[.string na] 9)).alloc (.cells #[.slice (some ⟨g, off + 1, none⟩) (ql - 1) (cap - 1)] 47)
            simp only [World.size_alloc] at hfin hmk2
            exact ⟨m - 1, by omega, p + 1, wr.heap.size + 1, T, n, ds, ⟨rfl, rfl⟩, by omega, Hskip.out, ⟨_, hfin⟩, hmk2⟩
    · have hpl : p = T.length := by have := hcp.pl; omega
      subst hpl
      have hql : (T.drop T.length).length = 0 := by simp
      rw [hql] at hqe
      subst hqe
      have HCS : Hid _ := hcs
      have HCP : Hid _ := hcp
      have HMK : Hid (Marks w.heap.size wr.heap.size ds wr) := hmk
      clear hqcells hqroom hcs hcp hmk hqc
      gi_wp2_with fail
      refine leaves_marks w.heap.size wr.heap.size ds wr HMK.out ?_
      intro W' h1 h2 h3 h4 h5
      refine ⟨_, results_tmp rfl _ _ _, w.heap.size + 1, T, n, rfl, by omega, HCP.out, ?_, ?_⟩
      · refine HCS.out.map.heap (h5 _ (fun _ e => ?_))
        obtain ⟨es, cl, hb⟩ := mapIs_obj HCS.out.map
        rw [hb] at e
        cases e
      · exact ⟨h2.trans HCS.out.bel.os, h3.trans HCS.out.bel.tape, h4.trans HCS.out.bel.output, by rw [← h1]; exact HCS.out.bel.size, fun b hb => (h5 b (fun hlo => by omega)).trans (HCS.out.bel.block b hb)⟩
end Go.Proofs.YbulkcfwsFmt
