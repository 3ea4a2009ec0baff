/- contracts of the library's (slices.Sort, Index, Contains, Clone, Compact at rows of ints) at this program: written by the shelf's own tools, in plain words. -/
import Derived.Shelf.Sort.Plain
import Derived.Shelf.Slices.Turned
import Derived.Shelf.Slices.Clone
import Derived.Shelf.Slices.CompactI
import Derived.Shelf.Slices.In.SortNone
import Derived.Test.YbulkbewaProg
namespace Go.Proofs
open Go.Shelf
def Yba.lays189_ren : Go.Shelf.Ren := ⟨fun | 189 => 14 | 125 => 27 | 257 => 26 | 128 => 44 | 129 => 45 | 294 => 35 | 295 => 36 | 296 => 37 | 297 => 38 | 298 => 39 | 299 => 40 | 216 => 41 | 300 => 42 | 301 => 43 | 328 => 50 | 329 => 51 | 330 => 52 | 331 => 53 | 332 => 54 | 215 => 33 | 343 => 63 | n => n, fun | 28 => 39 | 3 => 3 | 46 => 106 | 0 => 0 | 51 => 131 | 53 => 33 | 4 => 4 | 183 => 124 | 182 => 123 | 131 => 82 | 5 => 5 | 9 => 9 | 218 => 143 | 222 => 147 | 228 => 154 | 229 => 155 | n => n, fun | n => n⟩
theorem Yba.lays189 : Go.Proofs.Lays.n189 Yba.prog Yba.lays189_ren := {
  mixed := by kernel_rfl
  f125 := Yba.func27.trans (congrArg some (by kernel_rfl))
  f128 := Yba.func44.trans (congrArg some (by kernel_rfl))
  f129 := Yba.func45.trans (congrArg some (by kernel_rfl))
  f189 := Yba.func14.trans (congrArg some (by kernel_rfl))
  f215 := Yba.func33.trans (congrArg some (by kernel_rfl))
  f216 := Yba.func41.trans (congrArg some (by kernel_rfl))
  f257 := Yba.func26.trans (congrArg some (by kernel_rfl))
  f294 := Yba.func35.trans (congrArg some (by kernel_rfl))
  f295 := Yba.func36.trans (congrArg some (by kernel_rfl))
  f296 := Yba.func37.trans (congrArg some (by kernel_rfl))
  f297 := Yba.func38.trans (congrArg some (by kernel_rfl))
  f298 := Yba.func39.trans (congrArg some (by kernel_rfl))
  f299 := Yba.func40.trans (congrArg some (by kernel_rfl))
  f300 := Yba.func42.trans (congrArg some (by kernel_rfl))
  f301 := Yba.func43.trans (congrArg some (by kernel_rfl))
  f328 := Yba.func50.trans (congrArg some (by kernel_rfl))
  f329 := Yba.func51.trans (congrArg some (by kernel_rfl))
  f330 := Yba.func52.trans (congrArg some (by kernel_rfl))
  f331 := Yba.func53.trans (congrArg some (by kernel_rfl))
  f332 := Yba.func54.trans (congrArg some (by kernel_rfl))
  f343 := Yba.func63.trans (congrArg some (by kernel_rfl))
  t0 := Yba.underlying0
  a0 := Yba.isAgg0
  z0 := Yba.sizeOf0
  v0 := Yba.zeroValue0
  t3 := Yba.underlying3
  a3 := Yba.isAgg3
  z3 := Yba.sizeOf3
  v3 := Yba.zeroValue3
  t4 := Yba.underlying4
  a4 := Yba.isAgg4
  z4 := Yba.sizeOf4
  v4 := Yba.zeroValue4
  t5 := Yba.underlying5
  a5 := Yba.isAgg5
  z5 := Yba.sizeOf5
  v5 := Yba.zeroValue5
  t9 := Yba.underlying9
  a9 := Yba.isAgg9
  z9 := Yba.sizeOf9
  v9 := Yba.zeroValue9
  t28 := Yba.underlying39
  a28 := Yba.isAgg39
  z28 := Yba.sizeOf39
  v28 := Yba.zeroValue39
  t46 := Yba.underlying106
  a46 := Yba.isAgg106
  z46 := Yba.sizeOf106
  v46 := Yba.zeroValue106
  t51 := Yba.underlying131
  a51 := Yba.isAgg131
  z51 := Yba.sizeOf131
  v51 := Yba.zeroValue131
  t53 := Yba.underlying33
  a53 := Yba.isAgg33
  z53 := Yba.sizeOf33
  v53 := Yba.zeroValue33
  t131 := Yba.underlying82
  a131 := Yba.isAgg82
  z131 := Yba.sizeOf82
  v131 := Yba.zeroValue82
  t182 := Yba.underlying123
  a182 := Yba.isAgg123
  z182 := Yba.sizeOf123
  v182 := Yba.zeroValue123
  t183 := Yba.underlying124
  a183 := Yba.isAgg124
  z183 := Yba.sizeOf124
  v183 := Yba.zeroValue124
  t218 := Yba.underlying143
  a218 := Yba.isAgg143
  z218 := Yba.sizeOf143
  v218 := Yba.zeroValue143
  t222 := Yba.underlying147
  a222 := Yba.isAgg147
  z222 := Yba.sizeOf147
  v222 := Yba.zeroValue147
  t228 := Yba.underlying154
  a228 := Yba.isAgg154
  z228 := Yba.sizeOf154
  v228 := Yba.zeroValue154
  t229 := Yba.underlying155
  a229 := Yba.isAgg155
  z229 := Yba.sizeOf155
  v229 := Yba.zeroValue155 }
open Go.Sort Go.RowKit in
theorem Yba.slices_Sort_int (blk off cap : Nat) (zs : List Int) (w : World) (hH : Holds (Value.int .i64) w blk off zs.toArray) (hblk : blk < w.heap.size) (hsz : zs.length < 4611686018427387904) :
    Calls Yba.prog 14 #[.slice (some ⟨blk, off, none⟩) zs.length cap] w fun e w' =>
      e = .returned (.tuple #[]) ∧ ∃ n os, w' = grow (putRow (Value.int .i64) (Sort.ahead w n) blk off (zs.mergeSort fun x y => decide (x ≤ y)).toArray) os := Any.slices_Sort_int Yba.lays189 blk off cap zs w hH hblk hsz
def Yba.lays108_ren : Go.Shelf.Ren := ⟨fun | 108 => 28 | n => n, fun | 28 => 39 | 3 => 3 | 0 => 0 | 4 => 4 | n => n, fun | n => n⟩
theorem Yba.lays108 : Go.Proofs.Lays.n108 Yba.prog Yba.lays108_ren := {
  mixed := by kernel_rfl
  f108 := Yba.func28.trans (congrArg some (by kernel_rfl))
  t0 := Yba.underlying0
  a0 := Yba.isAgg0
  z0 := Yba.sizeOf0
  v0 := Yba.zeroValue0
  t3 := Yba.underlying3
  a3 := Yba.isAgg3
  z3 := Yba.sizeOf3
  v3 := Yba.zeroValue3
  t4 := Yba.underlying4
  a4 := Yba.isAgg4
  z4 := Yba.sizeOf4
  v4 := Yba.zeroValue4
  t28 := Yba.underlying39
  a28 := Yba.isAgg39
  z28 := Yba.sizeOf39
  v28 := Yba.zeroValue39 }
open Go.Lib in
theorem Yba.slices_Index_int (b off n c : Nat) (zs : List Int) (x : Int) (w : World) (hz : n ≤ zs.length) (hbig : n ≤ 9223372036854775807) (hc : ∀ j, j < zs.length → w.cell? ⟨b, off + j, none⟩ = some (.int .i64 (zs.getD j 0))) :
    Calls Yba.prog 28 #[.slice (some ⟨b, off, none⟩) n c, .int .i64 x] w fun e w' => e = .returned (.int .i64 (Lib.idxOf (zs.take n) x)) ∧ w' = w := Any.slices_Index_int Yba.lays108 b off n c zs x w hz hbig hc
open Go.Lib in
theorem Yba.slices_Index_int_empty (a : Option Addr) (c : Nat) (x : Int) (w : World) :
    Calls Yba.prog 28 #[.slice a 0 c, .int .i64 x] w fun e w' => e = .returned (.int .i64 (Lib.idxOf [] x)) ∧ w' = w := Any.slices_Index_int_empty Yba.lays108 a c x w
def Yba.lays107_ren : Go.Shelf.Ren := ⟨fun | 107 => 16 | 108 => 28 | n => n, fun | 28 => 39 | 3 => 3 | 4 => 4 | 0 => 0 | n => n, fun | n => n⟩
theorem Yba.lays107 : Go.Proofs.Lays.n107 Yba.prog Yba.lays107_ren := {
  mixed := by kernel_rfl
  f107 := Yba.func16.trans (congrArg some (by kernel_rfl))
  f108 := Yba.func28.trans (congrArg some (by kernel_rfl))
  t0 := Yba.underlying0
  a0 := Yba.isAgg0
  z0 := Yba.sizeOf0
  v0 := Yba.zeroValue0
  t3 := Yba.underlying3
  a3 := Yba.isAgg3
  z3 := Yba.sizeOf3
  v3 := Yba.zeroValue3
  t4 := Yba.underlying4
  a4 := Yba.isAgg4
  z4 := Yba.sizeOf4
  v4 := Yba.zeroValue4
  t28 := Yba.underlying39
  a28 := Yba.isAgg39
  z28 := Yba.sizeOf39
  v28 := Yba.zeroValue39 }
open Go.Lib in
theorem Yba.slices_Contains_int (b off n c : Nat) (zs : List Int) (x : Int) (w : World) (hz : n ≤ zs.length) (hbig : n ≤ 9223372036854775807) (hc : ∀ j, j < zs.length → w.cell? ⟨b, off + j, none⟩ = some (.int .i64 (zs.getD j 0))) :
    Calls Yba.prog 16 #[.slice (some ⟨b, off, none⟩) n c, .int .i64 x] w fun e w' => e = .returned (.bool ((zs.take n).contains x)) ∧ w' = w := Any.slices_Contains_int Yba.lays107 b off n c zs x w hz hbig hc
open Go.Lib in
theorem Yba.slices_Contains_int_empty (a : Option Addr) (c : Nat) (x : Int) (w : World) :
    Calls Yba.prog 16 #[.slice a 0 c, .int .i64 x] w fun e w' => e = .returned (.bool false) ∧ w' = w := Any.slices_Contains_int_empty Yba.lays107 a c x w
def Yba.laysNm215_ren : Go.Shelf.Ren := ⟨fun | 15 => 13 | n => n, fun | 22 => 39 | 3 => 3 | 4 => 4 | n => n, fun | n => n⟩
theorem Yba.laysNm215 : Go.Proofs.Lays2.n15 Yba.prog Yba.laysNm215_ren := {
  mixed := by kernel_rfl
  f15 := Yba.func13.trans (congrArg some (by kernel_rfl))
  t3 := Yba.underlying3
  a3 := Yba.isAgg3
  z3 := Yba.sizeOf3
  v3 := Yba.zeroValue3
  t4 := Yba.underlying4
  a4 := Yba.isAgg4
  z4 := Yba.sizeOf4
  v4 := Yba.zeroValue4
  t22 := Yba.underlying39
  a22 := Yba.isAgg39
  z22 := Yba.sizeOf39
  v22 := Yba.zeroValue39
  i3 := by kernel_rfl }
open Go.RowKit Go.Lib in
theorem Yba.slices_Clone_int (b off n c : Nat) (zs : List Int) (w : World) (hz : n ≤ zs.length) (hbig : n * 8 ≤ 140737488355328) (hc : ∀ j, j < zs.length → w.cell? ⟨b, off + j, none⟩ = some (.int .i64 (zs.getD j 0))) :
    Calls Yba.prog 13 #[.slice (some ⟨b, off, none⟩) n c] w fun e w' => ∃ v', e = .returned v' ∧ w'.ownsRow w.heap.size 3 1 v' n ((zs.take n).map (Value.int .i64)) ∧ v' ≠ .slice none 0 0 ∧ Below w.heap.size w w' := Any.slices_Clone_int Yba.laysNm215 b off n c zs w hz hbig hc
open Go.RowKit Go.Lib in
theorem Yba.slices_Clone_int_nil (n c : Nat) (w : World) :
    Calls Yba.prog 13 #[.slice none n c] w fun e w' => e = .returned (.slice none 0 0) ∧ w' = w := Any.slices_Clone_int_nil Yba.laysNm215 n c w
open Go.RowKit Go.Lib in
theorem Yba.slices_Clone_int_zero (a : Addr) (c : Nat) (w : World) :
    Calls Yba.prog 13 #[.slice (some a) 0 c] w fun e w' => ∃ v', e = .returned v' ∧ w'.ownsRow w.heap.size 3 1 v' 0 [] ∧ v' ≠ .slice none 0 0 ∧ Below w.heap.size w w' := Any.slices_Clone_int_zero Yba.laysNm215 a c w
def Yba.laysNm220_ren : Go.Shelf.Ren := ⟨fun | 20 => 15 | n => n, fun | 22 => 39 | 3 => 3 | 4 => 4 | 0 => 0 | n => n, fun | n => n⟩
theorem Yba.laysNm220 : Go.Proofs.Lays2.n20 Yba.prog Yba.laysNm220_ren := {
  mixed := by kernel_rfl
  f20 := Yba.func15.trans (congrArg some (by kernel_rfl))
  t0 := Yba.underlying0
  a0 := Yba.isAgg0
  z0 := Yba.sizeOf0
  v0 := Yba.zeroValue0
  t3 := Yba.underlying3
  a3 := Yba.isAgg3
  z3 := Yba.sizeOf3
  v3 := Yba.zeroValue3
  t4 := Yba.underlying4
  a4 := Yba.isAgg4
  z4 := Yba.sizeOf4
  v4 := Yba.zeroValue4
  t22 := Yba.underlying39
  a22 := Yba.isAgg39
  z22 := Yba.sizeOf39
  v22 := Yba.zeroValue39
  i3 := by kernel_rfl }
open Go.RowKit Go.Lib Go.Sort in
theorem Yba.slices_Compact_int_arr (blk off cap : Nat) (d : Array Int) (w : World) (hH : Holds encI w blk off d) (hsz : d.size ≤ 9223372036854775807) (hcap : d.size ≤ cap) :
    Calls Yba.prog 15 #[.slice (some ⟨blk, off, none⟩) d.size cap] w fun e w' => e = .returned (.slice (some ⟨blk, off, none⟩) (compactUpTo d d.size).length cap) ∧ ∃ q, w' = putRow encI (Sort.ahead w q) blk off (compactUpTo d d.size ++ List.replicate (d.size - (compactUpTo d d.size).length) 0).toArray := Any.slices_Compact_int_arr Yba.laysNm220 blk off cap d w hH hsz hcap
open Go.RowKit Go.Lib Go.Sort in
theorem Yba.slices_Compact_int (blk off cap : Nat) (zs : List Int) (w : World) (hH : Holds (Value.int .i64) w blk off zs.toArray) (hsz : zs.length ≤ 9223372036854775807) (hcap : zs.length ≤ cap) :
    Calls Yba.prog 15 #[.slice (some ⟨blk, off, none⟩) zs.length cap] w fun e w' => e = .returned (.slice (some ⟨blk, off, none⟩) (Lib.compact zs).length cap) ∧ ∃ q, w' = putRow (Value.int .i64) (Sort.ahead w q) blk off (Lib.compact zs ++ List.replicate (zs.length - (Lib.compact zs).length) 0).toArray := Any.slices_Compact_int Yba.laysNm220 blk off cap zs w hH hsz hcap
open Go.RowKit Go.Lib Go.Sort in
theorem Yba.slices_Compact_int_empty (a : Option Addr) (cap : Nat) (w : World) :
    Calls Yba.prog 15 #[.slice a 0 cap] w fun e w' => e = .returned (.slice a 0 cap) ∧ w' = w := Any.slices_Compact_int_empty Yba.laysNm220 a cap w
open Go.RowKit Go.Sort in
theorem Yba.slices_Sort_int_none (p : Option Addr) (cap : Nat) (w : World) :
    Calls Yba.prog 14 #[.slice p 0 cap] w fun e w' => e = .returned (.tuple #[]) ∧ w' = w := Any.slices_Sort_int_none Yba.lays189 p cap w
end Go.Proofs
