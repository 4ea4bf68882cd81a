import Derived.Test.YbulkcfvqBuild
namespace Go.Proofs.Ybulkcfvq
open Go.RowKit

/-! ### Plain: bytes laid end to end, cut out again -/
theorem ba_ext {a b : ByteArray} (h : a.data.toList = b.data.toList) : a = b := by
  apply ByteArray.ext
  exact Array.toList_inj.1 h

theorem ba_toList (a : ByteArray) : a.toList = a.data.toList := ByteArray.toList_eq a

theorem ba_empty {a : ByteArray} (h : (!a.toList.isEmpty) = false) : a = { data := #[] } := by
  apply ba_ext
  rw [ba_toList] at h
  simpa using h

theorem ba_size_pos {a : ByteArray} (h : (!a.toList.isEmpty) = true) : 0 < a.size := by
  rw [ba_toList] at h
  rcases Nat.eq_zero_or_pos a.size with h0 | h0
  · have : a.data.toList.length = 0 := by simpa using h0
    rw [List.length_eq_zero_iff.1 this] at h
    cases h
  · exact h0

theorem mid (x y z : ByteArray) {i j : Nat} (hi : i = x.size) (hj : j = x.size + y.size) : (x ++ (y ++ z)).extract i j = y := by
  subst hi hj
  apply ba_ext
  have hx : x.size = x.data.toList.length := by simp
  have hy : y.size = y.data.toList.length := by simp
  rw [ByteArray.data_extract, ByteArray.data_append, ByteArray.data_append, Array.toList_extract, List.extract_eq_take_drop, Array.toList_append, Array.toList_append, hx, hy, List.drop_left, Nat.add_sub_cancel_left, List.take_left]

/-- The six parts as they lie in the text. -/
def pE (c : Bool) (a : ByteArray) : ByteArray := bif c then a ++ { data := #[33] } else { data := #[] }
def pP (c : Bool) (a : ByteArray) : ByteArray := bif c then { data := #[46, 112, 111, 115, 116] } ++ a else { data := #[] }
def pD (c : Bool) (a : ByteArray) : ByteArray := bif c then { data := #[46, 100, 101, 118] } ++ a else { data := #[] }
def pL (c : Bool) (a : ByteArray) : ByteArray := bif c then { data := #[43] } ++ a else { data := #[] }

theorem nil_app (a : ByteArray) : ({ data := #[] } : ByteArray) ++ a = a := by apply ba_ext; simp
theorem app_nil (a : ByteArray) : a ++ ({ data := #[] } : ByteArray) = a := by apply ba_ext; simp
theorem app_assoc (a b c : ByteArray) : a ++ b ++ c = a ++ (b ++ c) := by apply ba_ext; simp

theorem tE_eq (c : Bool) (a : ByteArray) : tE c a = pE c a := by cases c <;> simp [tE, pE, nil_app]
theorem tP_eq (c : Bool) (t a : ByteArray) : tP c t a = t ++ pP c a := by cases c <;> simp [tP, pP, app_nil]
theorem tD_eq (c : Bool) (t a : ByteArray) : tD c t a = t ++ pD c a := by cases c <;> simp [tD, pD, app_nil]
theorem tL_eq (c : Bool) (t a : ByteArray) : tL c t a = t ++ pL c a := by cases c <;> simp [tL, pL, app_nil]
theorem ba_size0 (l : Array UInt8) : (ByteArray.mk l).size = l.size := rfl
theorem nE_eq (c : Bool) (a : ByteArray) : nE c a = ((pE c a).size : Nat) := by cases c <;> simp [nE, pE, ByteArray.size_append, ba_size0]
theorem nP_eq (c : Bool) (n : Int) (a : ByteArray) : nP c n a = n + ((pP c a).size : Nat) := by cases c <;> simp [nP, pP, ByteArray.size_append, ba_size0]
theorem nD_eq (c : Bool) (n : Int) (a : ByteArray) : nD c n a = n + ((pD c a).size : Nat) := by cases c <;> simp [nD, pD, ByteArray.size_append, ba_size0]

section
variable (c0 c3 c4 c5 : Bool) (a0 a1 a2 a3 a4 a5 : ByteArray)
/-- The whole text. -/
def text : ByteArray := pE c0 a0 ++ (a1 ++ (a2 ++ (pP c3 a3 ++ (pD c4 a4 ++ pL c5 a5))))
def eE : Nat := (pE c0 a0).size
def eR : Nat := eE c0 a0 + a1.size
def ePr : Nat := eR c0 a0 a1 + a2.size
def ePo : Nat := ePr c0 a0 a1 a2 + (pP c3 a3).size
def eD : Nat := ePo c0 c3 a0 a1 a2 a3 + (pD c4 a4).size

theorem built_eq : built c0 c3 c4 c5 a0 a1 a2 a3 a4 a5 = .agg #[.int .i64 4, .string (text c0 c3 c4 c5 a0 a1 a2 a3 a4 a5), .string { data := #[] }, .string { data := #[] }, .string { data := #[] }, .string { data := #[] },
    .int .i64 (eE c0 a0 : Nat), .int .i64 (eR c0 a0 a1 : Nat), .int .i64 (ePr c0 a0 a1 a2 : Nat), .int .i64 (ePo c0 c3 a0 a1 a2 a3 : Nat), .int .i64 (eD c0 c3 c4 a0 a1 a2 a3 a4 : Nat), .string { data := #[] }] := by
  have e1 : tL c5 (tD c4 (tP c3 (tE c0 a0 ++ a1 ++ a2) a3) a4) a5 = text c0 c3 c4 c5 a0 a1 a2 a3 a4 a5 := by
    rw [tL_eq, tD_eq, tP_eq, tE_eq]
    unfold text
    simp only [app_assoc]
  unfold built
  rw [e1, nD_eq, nP_eq, nE_eq]
  unfold eD ePo ePr eR eE
  simp only [Int.natCast_add]

theorem text_size : (text c0 c3 c4 c5 a0 a1 a2 a3 a4 a5).size = eD c0 c3 c4 a0 a1 a2 a3 a4 + (pL c5 a5).size := by
  unfold text eD ePo ePr eR eE
  simp only [ByteArray.size_append]
  omega

theorem got1 : (text c0 c3 c4 c5 a0 a1 a2 a3 a4 a5).extract (eE c0 a0) (eR c0 a0 a1) = a1 := mid _ _ _ rfl rfl
theorem got2 : (text c0 c3 c4 c5 a0 a1 a2 a3 a4 a5).extract (eR c0 a0 a1) (ePr c0 a0 a1 a2) = a2 := by
  have : text c0 c3 c4 c5 a0 a1 a2 a3 a4 a5 = (pE c0 a0 ++ a1) ++ (a2 ++ (pP c3 a3 ++ (pD c4 a4 ++ pL c5 a5))) := by unfold text; simp only [app_assoc]
  rw [this]
  exact mid _ _ _ (by simp [eR, eE, ByteArray.size_append]) (by simp [ePr, eR, eE, ByteArray.size_append])
theorem got0 (h : c0 = true) : (text c0 c3 c4 c5 a0 a1 a2 a3 a4 a5).extract 0 (eE c0 a0 - 1) = a0 := by
  subst h
  have : text true c3 c4 c5 a0 a1 a2 a3 a4 a5 = { data := #[] } ++ (a0 ++ ({ data := #[33] } ++ (a1 ++ (a2 ++ (pP c3 a3 ++ (pD c4 a4 ++ pL c5 a5)))))) := by
    unfold text pE
    simp only [cond_true, app_assoc, nil_app]
  rw [this]
  exact mid _ _ _ rfl (by simp [eE, pE, ByteArray.size_append, ba_size0])
theorem got3 (h : c3 = true) : (text c0 c3 c4 c5 a0 a1 a2 a3 a4 a5).extract (ePr c0 a0 a1 a2 + 5) (ePo c0 c3 a0 a1 a2 a3) = a3 := by
  subst h
  have : text c0 true c4 c5 a0 a1 a2 a3 a4 a5 = (pE c0 a0 ++ a1 ++ a2 ++ { data := #[46, 112, 111, 115, 116] }) ++ (a3 ++ (pD c4 a4 ++ pL c5 a5)) := by
    unfold text pP
    simp only [cond_true, app_assoc]
  rw [this]
  exact mid _ _ _ (by simp [ePr, eR, eE, ByteArray.size_append, ba_size0]) (by simp [ePo, ePr, eR, eE, pP, ByteArray.size_append, ba_size0]; omega)
theorem got4 (h : c4 = true) : (text c0 c3 c4 c5 a0 a1 a2 a3 a4 a5).extract (ePo c0 c3 a0 a1 a2 a3 + 4) (eD c0 c3 c4 a0 a1 a2 a3 a4) = a4 := by
  subst h
  have : text c0 c3 true c5 a0 a1 a2 a3 a4 a5 = (pE c0 a0 ++ a1 ++ a2 ++ pP c3 a3 ++ { data := #[46, 100, 101, 118] }) ++ (a4 ++ pL c5 a5) := by
    unfold text pD
    simp only [cond_true, app_assoc]
  rw [this]
  exact mid _ _ _ (by simp [ePo, ePr, eR, eE, ByteArray.size_append, ba_size0]) (by simp [eD, ePo, ePr, eR, eE, pD, ByteArray.size_append, ba_size0]; omega)
theorem got5 (h : c5 = true) : (text c0 c3 c4 c5 a0 a1 a2 a3 a4 a5).extract (eD c0 c3 c4 a0 a1 a2 a3 a4 + 1) (text c0 c3 c4 c5 a0 a1 a2 a3 a4 a5).size = a5 := by
  rw [text_size]
  subst h
  have : text c0 c3 c4 true a0 a1 a2 a3 a4 a5 = (pE c0 a0 ++ a1 ++ a2 ++ pP c3 a3 ++ pD c4 a4 ++ { data := #[43] }) ++ (a5 ++ { data := #[] }) := by
    unfold text pL
    simp only [cond_true, app_assoc, app_nil]
  rw [this]
  exact mid _ _ _ (by simp [eD, ePo, ePr, eR, eE, ByteArray.size_append, ba_size0]) (by simp [eD, ePo, ePr, eR, eE, pL, ByteArray.size_append, ba_size0]; omega)
end

theorem pE_size (c : Bool) (a : ByteArray) : (pE c a).size = bif c then a.size + 1 else 0 := by cases c <;> simp [pE, ByteArray.size_append, ba_size0]
theorem pP_size (c : Bool) (a : ByteArray) : (pP c a).size = bif c then 5 + a.size else 0 := by cases c <;> simp [pP, ByteArray.size_append, ba_size0]
theorem pD_size (c : Bool) (a : ByteArray) : (pD c a).size = bif c then 4 + a.size else 0 := by cases c <;> simp [pD, ByteArray.size_append, ba_size0]
theorem pL_size (c : Bool) (a : ByteArray) : (pL c a).size = bif c then 1 + a.size else 0 := by cases c <;> simp [pL, ByteArray.size_append, ba_size0]
end Go.Proofs.Ybulkcfvq
