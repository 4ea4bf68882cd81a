/-
  Library contracts at this program (slices.Sort, Equal, Clone, Compact at []string), laid in plain words by the kit's tool lay-plain.mjs.
-/
import Derived.Shelf.Sort.Plain
import Derived.Shelf.Slices.Equal
import Derived.Ground.Names2Prog
import Derived.Shelf.Slices.Clone
import Derived.Shelf.Slices.CompactS
import Derived.Shelf.Slices.Cells
import Derived.Shelf.Slices.In.SortNone
import Derived.Shelf.Slices.Empties2
import Derived.Test.YbulkcfwsFmtRows
namespace Go.Proofs
open Go.Shelf
def Ybaf.lays190_ren : Go.Shelf.Ren := ⟨fun | 190 => 44 | 125 => 56 | 258 => 55 | 128 => 74 | 129 => 75 | 302 => 65 | 303 => 66 | 304 => 67 | 305 => 68 | 306 => 69 | 307 => 70 | 308 => 71 | 309 => 72 | 310 => 73 | 333 => 80 | 329 => 81 | 330 => 82 | 334 => 83 | 335 => 84 | 336 => 85 | 344 => 87 | n => n, fun | 31 => 47 | 9 => 9 | 3 => 3 | 46 => 127 | 0 => 0 | 51 => 144 | 53 => 146 | 4 => 4 | 183 => 137 | 182 => 136 | 131 => 75 | 5 => 5 | 218 => 154 | 222 => 158 | 228 => 160 | 229 => 161 | n => n, fun | n => n⟩
theorem Ybaf.lays190 : Go.Proofs.Lays.n190 Ybaf.prog Ybaf.lays190_ren := {
  mixed := by kernel_rfl
  f125 := Ybaf.func56.trans (congrArg some (by kernel_rfl))
  f128 := Ybaf.func74.trans (congrArg some (by kernel_rfl))
  f129 := Ybaf.func75.trans (congrArg some (by kernel_rfl))
  f190 := Ybaf.func44.trans (congrArg some (by kernel_rfl))
  f258 := Ybaf.func55.trans (congrArg some (by kernel_rfl))
  f302 := Ybaf.func65.trans (congrArg some (by kernel_rfl))
  f303 := Ybaf.func66.trans (congrArg some (by kernel_rfl))
  f304 := Ybaf.func67.trans (congrArg some (by kernel_rfl))
  f305 := Ybaf.func68.trans (congrArg some (by kernel_rfl))
  f306 := Ybaf.func69.trans (congrArg some (by kernel_rfl))
  f307 := Ybaf.func70.trans (congrArg some (by kernel_rfl))
  f308 := Ybaf.func71.trans (congrArg some (by kernel_rfl))
  f309 := Ybaf.func72.trans (congrArg some (by kernel_rfl))
  f310 := Ybaf.func73.trans (congrArg some (by kernel_rfl))
  f329 := Ybaf.func81.trans (congrArg some (by kernel_rfl))
  f330 := Ybaf.func82.trans (congrArg some (by kernel_rfl))
  f333 := Ybaf.func80.trans (congrArg some (by kernel_rfl))
  f334 := Ybaf.func83.trans (congrArg some (by kernel_rfl))
  f335 := Ybaf.func84.trans (congrArg some (by kernel_rfl))
  f336 := Ybaf.func85.trans (congrArg some (by kernel_rfl))
  f344 := Ybaf.func87.trans (congrArg some (by kernel_rfl))
  t0 := Ybaf.underlying0
  a0 := Ybaf.isAgg0
  z0 := Ybaf.sizeOf0
  v0 := Ybaf.zeroValue0
  t3 := Ybaf.underlying3
  a3 := Ybaf.isAgg3
  z3 := Ybaf.sizeOf3
  v3 := Ybaf.zeroValue3
  t4 := Ybaf.underlying4
  a4 := Ybaf.isAgg4
  z4 := Ybaf.sizeOf4
  v4 := Ybaf.zeroValue4
  t5 := Ybaf.underlying5
  a5 := Ybaf.isAgg5
  z5 := Ybaf.sizeOf5
  v5 := Ybaf.zeroValue5
  t9 := Ybaf.underlying9
  a9 := Ybaf.isAgg9
  z9 := Ybaf.sizeOf9
  v9 := Ybaf.zeroValue9
  t31 := Ybaf.underlying47
  a31 := Ybaf.isAgg47
  z31 := Ybaf.sizeOf47
  v31 := Ybaf.zeroValue47
  t46 := Ybaf.underlying127
  a46 := Ybaf.isAgg127
  z46 := Ybaf.sizeOf127
  v46 := Ybaf.zeroValue127
  t51 := Ybaf.underlying144
  a51 := Ybaf.isAgg144
  z51 := Ybaf.sizeOf144
  v51 := Ybaf.zeroValue144
  t53 := Ybaf.underlying146
  a53 := Ybaf.isAgg146
  z53 := Ybaf.sizeOf146
  v53 := Ybaf.zeroValue146
  t131 := Ybaf.underlying75
  a131 := Ybaf.isAgg75
  z131 := Ybaf.sizeOf75
  v131 := Ybaf.zeroValue75
  t182 := Ybaf.underlying136
  a182 := Ybaf.isAgg136
  z182 := Ybaf.sizeOf136
  v182 := Ybaf.zeroValue136
  t183 := Ybaf.underlying137
  a183 := Ybaf.isAgg137
  z183 := Ybaf.sizeOf137
  v183 := Ybaf.zeroValue137
  t218 := Ybaf.underlying154
  a218 := Ybaf.isAgg154
  z218 := Ybaf.sizeOf154
  v218 := Ybaf.zeroValue154
  t222 := Ybaf.underlying158
  a222 := Ybaf.isAgg158
  z222 := Ybaf.sizeOf158
  v222 := Ybaf.zeroValue158
  t228 := Ybaf.underlying160
  a228 := Ybaf.isAgg160
  z228 := Ybaf.sizeOf160
  v228 := Ybaf.zeroValue160
  t229 := Ybaf.underlying161
  a229 := Ybaf.isAgg161
  z229 := Ybaf.sizeOf161
  v229 := Ybaf.zeroValue161 }
open Go.Sort Go.RowKit in
theorem Ybaf.slices_Sort_string (blk off cap : Nat) (ss : List (List UInt8)) (w : World) (hH : Holds encStr w blk off ss.toArray) (hblk : blk < w.heap.size) (hsz : ss.length < 4611686018427387904) :
    Calls Ybaf.prog 44 #[.slice (some ⟨blk, off, none⟩) ss.length cap] w fun e w' =>
      e = .returned (.tuple #[]) ∧ ∃ n os, w' = grow (putRow encStr (Sort.ahead w n) blk off (ss.mergeSort fun x y => decide (x ≤ y)).toArray) os := Any.slices_Sort_string Ybaf.lays190 blk off cap ss w hH hblk hsz
def Ybaf.lays193_ren : Go.Shelf.Ren := ⟨fun | 193 => 19 | n => n, fun | 31 => 47 | 9 => 9 | 4 => 4 | 3 => 3 | 0 => 0 | n => n, fun | n => n⟩
theorem Ybaf.lays193 : Go.Proofs.Lays.n193 Ybaf.prog Ybaf.lays193_ren := {
  mixed := by kernel_rfl
  f193 := Ybaf.func19.trans (congrArg some (by kernel_rfl))
  t0 := Ybaf.underlying0
  a0 := Ybaf.isAgg0
  z0 := Ybaf.sizeOf0
  v0 := Ybaf.zeroValue0
  t3 := Ybaf.underlying3
  a3 := Ybaf.isAgg3
  z3 := Ybaf.sizeOf3
  v3 := Ybaf.zeroValue3
  t4 := Ybaf.underlying4
  a4 := Ybaf.isAgg4
  z4 := Ybaf.sizeOf4
  v4 := Ybaf.zeroValue4
  t9 := Ybaf.underlying9
  a9 := Ybaf.isAgg9
  z9 := Ybaf.sizeOf9
  v9 := Ybaf.zeroValue9
  t31 := Ybaf.underlying47
  a31 := Ybaf.isAgg47
  z31 := Ybaf.sizeOf47
  v31 := Ybaf.zeroValue47 }
open Go.RowKit Go.Lib in
theorem Ybaf.slices_Equal_string (b1 o1 n c b2 o2 m d : Nat) (xs ys : List ByteArray) (w : World) (hx : n ≤ xs.length) (hy : m ≤ ys.length) (hbig : n ≤ 9223372036854775807) (hbig2 : m ≤ 9223372036854775807) (hc1 : ∀ j, j < xs.length → w.cell? ⟨b1, o1 + j, none⟩ = some (.string (xs.getD j ByteArray.empty))) (hc2 : ∀ j, j < ys.length → w.cell? ⟨b2, o2 + j, none⟩ = some (.string (ys.getD j ByteArray.empty))) :
    Calls Ybaf.prog 19 #[.slice (some ⟨b1, o1, none⟩) n c, .slice (some ⟨b2, o2, none⟩) m d] w fun e w' => e = .returned (.bool (decide (xs.take n = ys.take m))) ∧ ∃ q, w' = w.drewN q := Any.slices_Equal_string Ybaf.lays193 b1 o1 n c b2 o2 m d xs ys w hx hy hbig hbig2 hc1 hc2
open Go.RowKit Go.Lib in
theorem Ybaf.slices_Equal_string_empty (a1 a2 : Option Addr) (c m d : Nat) (w : World) (hbig2 : m ≤ 9223372036854775807) :
    Calls Ybaf.prog 19 #[.slice a1 0 c, .slice a2 m d] w fun e w' => e = .returned (.bool (decide (m = 0))) ∧ w' = w := Any.slices_Equal_string_empty Ybaf.lays193 a1 a2 c m d w hbig2
def Ybaf.laysNm216_ren : Go.Shelf.Ren := ⟨fun | 16 => 22 | n => n, fun | 24 => 47 | 9 => 9 | 4 => 4 | n => n, fun | n => n⟩
theorem Ybaf.laysNm216 : Go.Proofs.Lays2.n16 Ybaf.prog Ybaf.laysNm216_ren := {
  mixed := by kernel_rfl
  f16 := Ybaf.func22.trans (congrArg some (by kernel_rfl))
  t4 := Ybaf.underlying4
  a4 := Ybaf.isAgg4
  z4 := Ybaf.sizeOf4
  v4 := Ybaf.zeroValue4
  t9 := Ybaf.underlying9
  a9 := Ybaf.isAgg9
  z9 := Ybaf.sizeOf9
  v9 := Ybaf.zeroValue9
  t24 := Ybaf.underlying47
  a24 := Ybaf.isAgg47
  z24 := Ybaf.sizeOf47
  v24 := Ybaf.zeroValue47
  i9 := by kernel_rfl }
open Go.RowKit Go.Lib in
theorem Ybaf.slices_Clone_string (b off n c : Nat) (zs : List ByteArray) (w : World) (hz : n ≤ zs.length) (hbig : n * 16 ≤ 140737488355328) (hc : ∀ j, j < zs.length → w.cell? ⟨b, off + j, none⟩ = some (.string (zs.getD j ByteArray.empty))) :
    Calls Ybaf.prog 22 #[.slice (some ⟨b, off, none⟩) n c] w fun e w' => ∃ v', e = .returned v' ∧ w'.ownsRow w.heap.size 9 1 v' n ((zs.take n).map (Value.string)) ∧ v' ≠ .slice none 0 0 ∧ Below w.heap.size w w' := Any.slices_Clone_string Ybaf.laysNm216 b off n c zs w hz hbig hc
open Go.RowKit Go.Lib in
theorem Ybaf.slices_Clone_string_nil (n c : Nat) (w : World) :
    Calls Ybaf.prog 22 #[.slice none n c] w fun e w' => e = .returned (.slice none 0 0) ∧ w' = w := Any.slices_Clone_string_nil Ybaf.laysNm216 n c w
open Go.RowKit Go.Lib in
theorem Ybaf.slices_Clone_string_zero (a : Addr) (c : Nat) (w : World) :
    Calls Ybaf.prog 22 #[.slice (some a) 0 c] w fun e w' => ∃ v', e = .returned v' ∧ w'.ownsRow w.heap.size 9 1 v' 0 [] ∧ v' ≠ .slice none 0 0 ∧ Below w.heap.size w w' := Any.slices_Clone_string_zero Ybaf.laysNm216 a c w
def Ybaf.lays194_ren : Go.Shelf.Ren := ⟨fun | 194 => 53 | n => n, fun | 31 => 47 | 9 => 9 | 3 => 3 | 4 => 4 | 0 => 0 | n => n, fun | n => n⟩
theorem Ybaf.lays194 : Go.Proofs.Lays.n194 Ybaf.prog Ybaf.lays194_ren := {
  mixed := by kernel_rfl
  f194 := Ybaf.func53.trans (congrArg some (by kernel_rfl))
  t0 := Ybaf.underlying0
  a0 := Ybaf.isAgg0
  z0 := Ybaf.sizeOf0
  v0 := Ybaf.zeroValue0
  t3 := Ybaf.underlying3
  a3 := Ybaf.isAgg3
  z3 := Ybaf.sizeOf3
  v3 := Ybaf.zeroValue3
  t4 := Ybaf.underlying4
  a4 := Ybaf.isAgg4
  z4 := Ybaf.sizeOf4
  v4 := Ybaf.zeroValue4
  t9 := Ybaf.underlying9
  a9 := Ybaf.isAgg9
  z9 := Ybaf.sizeOf9
  v9 := Ybaf.zeroValue9
  t31 := Ybaf.underlying47
  a31 := Ybaf.isAgg47
  z31 := Ybaf.sizeOf47
  v31 := Ybaf.zeroValue47 }
open Go.RowKit Go.Lib Go.Sort in
theorem Ybaf.slices_Compact_string_arr (blk off cap : Nat) (d : Array (List UInt8)) (w : World) (hH : Holds encStr w blk off d) (hsz : d.size ≤ 9223372036854775807) (hcap : d.size ≤ cap) :
    Calls Ybaf.prog 53 #[.slice (some ⟨blk, off, none⟩) d.size cap] w fun e w' => e = .returned (.slice (some ⟨blk, off, none⟩) (compactUpTo d d.size).length cap) ∧ ∃ q, w' = putRow encStr (Sort.ahead w q) blk off (compactUpTo d d.size ++ List.replicate (d.size - (compactUpTo d d.size).length) []).toArray := Any.slices_Compact_string_arr Ybaf.lays194 blk off cap d w hH hsz hcap
open Go.RowKit Go.Lib Go.Sort in
theorem Ybaf.slices_Compact_string (blk off cap : Nat) (zs : List (List UInt8)) (w : World) (hH : Holds encStr w blk off zs.toArray) (hsz : zs.length ≤ 9223372036854775807) (hcap : zs.length ≤ cap) :
    Calls Ybaf.prog 53 #[.slice (some ⟨blk, off, none⟩) zs.length cap] w fun e w' => e = .returned (.slice (some ⟨blk, off, none⟩) (Lib.compact zs).length cap) ∧ ∃ q, w' = putRow encStr (Sort.ahead w q) blk off (Lib.compact zs ++ List.replicate (zs.length - (Lib.compact zs).length) []).toArray := Any.slices_Compact_string Ybaf.lays194 blk off cap zs w hH hsz hcap
open Go.RowKit Go.Lib Go.Sort in
theorem Ybaf.slices_Compact_string_empty (a : Option Addr) (cap : Nat) (w : World) :
    Calls Ybaf.prog 53 #[.slice a 0 cap] w fun e w' => e = .returned (.slice a 0 cap) ∧ w' = w := Any.slices_Compact_string_empty Ybaf.lays194 a cap w
open Go.RowKit Go.Lib Go.Sort in
theorem Ybaf.slices_Compact_string_cells (b off n c : Nat) (Sx : Nat → ByteArray) (w : World) (hbig : n ≤ 9223372036854775807) (hcap : n ≤ c) (hc : ∀ i, i < n → w.cell? ⟨b, off + i, none⟩ = some (.string (Sx i))) (hf : ∀ j, j < n → w.frozen? ⟨b, off + j, none⟩ = false) :
    Calls Ybaf.prog 53 #[.slice (some ⟨b, off, none⟩) n c] w fun e w' => e = .returned (.slice (some ⟨b, off, none⟩) (Lib.compact (Lib.strsOf Sx n)).length c) ∧ ∃ q, w' = (w.drewN q).setCells b off ((Lib.compact (Lib.strsOf Sx n) ++ List.replicate (n - (Lib.compact (Lib.strsOf Sx n)).length) []).map encStr) := Any.slices_Compact_string_cells Ybaf.lays194 b off n c Sx w hbig hcap hc hf
open Go.RowKit Go.Sort in
theorem Ybaf.slices_Sort_string_none (p : Option Addr) (cap : Nat) (w : World) :
    Calls Ybaf.prog 44 #[.slice p 0 cap] w fun e w' => e = .returned (.tuple #[]) ∧ w' = w := Any.slices_Sort_string_none Ybaf.lays190 p cap w
open Go.RowKit Go.Lib in
theorem Ybaf.slices_Equal_string_lens (a1 a2 : Option Addr) (n c m d : Nat) (w : World) (hnm : n ≠ m) :
    Calls Ybaf.prog 19 #[.slice a1 n c, .slice a2 m d] w fun e w' => e = .returned (.bool false) ∧ w' = w := Any.slices_Equal_string_lens Ybaf.lays193 a1 a2 n c m d w hnm
end Go.Proofs
