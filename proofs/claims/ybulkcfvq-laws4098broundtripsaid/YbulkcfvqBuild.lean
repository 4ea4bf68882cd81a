import Derived.Test.YbulkcfvqParts
namespace Go.Proofs.Ybulkcfvq
open Go.RowKit

/-- The text with the epoch. -/
def tE (c : Bool) (a : ByteArray) : ByteArray := bif c then { data := #[] } ++ (a ++ { data := #[33] }) else { data := #[] }
def tP (c : Bool) (t a : ByteArray) : ByteArray := bif c then t ++ ({ data := #[46, 112, 111, 115, 116] } ++ a) else t
def tD (c : Bool) (t a : ByteArray) : ByteArray := bif c then t ++ ({ data := #[46, 100, 101, 118] } ++ a) else t
def tL (c : Bool) (t a : ByteArray) : ByteArray := bif c then t ++ ({ data := #[43] } ++ a) else t
/-- The ends. -/
def nE (c : Bool) (a : ByteArray) : Int := bif c then a.size + 1 else 0
def nP (c : Bool) (n : Int) (a : ByteArray) : Int := bif c then n + (5 + a.size) else n
def nD (c : Bool) (n : Int) (a : ByteArray) : Int := bif c then n + (4 + a.size) else n
/-- The version that is built. -/
def built (c0 c3 c4 c5 : Bool) (a0 a1 a2 a3 a4 a5 : ByteArray) : Value :=
  .agg #[.int .i64 4, .string (tL c5 (tD c4 (tP c3 (tE c0 a0 ++ a1 ++ a2) a3) a4) a5), .string { data := #[] }, .string { data := #[] }, .string { data := #[] }, .string { data := #[] },
    .int .i64 (nE c0 a0), .int .i64 (nE c0 a0 + a1.size), .int .i64 (nE c0 a0 + a1.size + a2.size), .int .i64 (nP c3 (nE c0 a0 + a1.size + a2.size) a3), .int .i64 (nD c4 (nP c3 (nE c0 a0 + a1.size + a2.size) a3) a4), .string { data := #[] }]

set_option maxHeartbeats 8000000 in
theorem build_any (a0 a1 a2 a3 a4 a5 : ByteArray) (w : World) (h0 : a0.size ≤ 4096) (h1 : a1.size ≤ 4096) (h2 : a2.size ≤ 4096) (h3 : a3.size ≤ 4096) (h4 : a4.size ≤ 4096) (h5 : a5.size ≤ 4096) :
    Calls Yba.prog 8 #[.string a0, .string a1, .string a2, .string a3, .string a4, .string a5] w fun e w' => e = .returned (built (!a0.toList.isEmpty) (!a3.toList.isEmpty) (!a4.toList.isEmpty) (!a5.toList.isEmpty) a0 a1 a2 a3 a4 a5) ∧ ∃ o1 t1 o2 t2, w' = (w.alloc (.cells o1 t1)).alloc (.cells o2 t2) := by
  go_enter Yba.func8, Yba.ntmps8
  go_wp2
  all_goals
    refine bodyPost_ret (v := built (!a0.toList.isEmpty) (!a3.toList.isEmpty) (!a4.toList.isEmpty) (!a5.toList.isEmpty) a0 a1 a2 a3 a4 a5) ?_ rfl ⟨rfl, _, _, _, _, rfl⟩
    simp only [*]
    simp [results, Yba.results8, go_sem, built, tE, tP, tD, tL, nE, nP, nD]
end Go.Proofs.Ybulkcfvq
