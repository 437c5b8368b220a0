/- THE SHELF's CONTRACTS AT THIS DUMP, IN PLAIN WORDS (written by the kit's lay-shelf.mjs and lay-plain.mjs). -/
import Derived.Shelf.Sort.Plain
import Derived.Shelf.Slices.Equal
import Derived.Ground.Names2Prog
import Derived.Shelf.Slices.Clone
import Derived.Shelf.Slices.In.SortNone
import Derived.Shelf.Slices.Empties2
import Derived.Test.YtjifdcklmpibpaaDoorProg
namespace Go.Proofs
open Go.Shelf
def Tryd.lays189_ren : Go.Shelf.Ren := ⟨fun | 189 => 24 | 125 => 37 | 257 => 36 | 128 => 48 | 129 => 49 | 294 => 39 | 295 => 40 | 296 => 41 | 297 => 42 | 298 => 43 | 299 => 44 | 216 => 45 | 300 => 46 | 301 => 47 | 328 => 50 | 329 => 51 | 330 => 52 | 331 => 53 | 332 => 54 | 215 => 55 | 343 => 56 | n => n, fun | 28 => 27 | 3 => 3 | 46 => 80 | 0 => 0 | 51 => 96 | 53 => 98 | 4 => 4 | 183 => 88 | 182 => 87 | 131 => 93 | 5 => 5 | 9 => 9 | 218 => 99 | 222 => 103 | 228 => 106 | 229 => 31 | n => n, fun | n => n⟩
theorem Tryd.lays189 : Go.Proofs.Lays.n189 Tryd.prog Tryd.lays189_ren := {
  mixed := by kernel_rfl
  f125 := Tryd.func37.trans (congrArg some (by kernel_rfl))
  f128 := Tryd.func48.trans (congrArg some (by kernel_rfl))
  f129 := Tryd.func49.trans (congrArg some (by kernel_rfl))
  f189 := Tryd.func24.trans (congrArg some (by kernel_rfl))
  f215 := Tryd.func55.trans (congrArg some (by kernel_rfl))
  f216 := Tryd.func45.trans (congrArg some (by kernel_rfl))
  f257 := Tryd.func36.trans (congrArg some (by kernel_rfl))
  f294 := Tryd.func39.trans (congrArg some (by kernel_rfl))
  f295 := Tryd.func40.trans (congrArg some (by kernel_rfl))
  f296 := Tryd.func41.trans (congrArg some (by kernel_rfl))
  f297 := Tryd.func42.trans (congrArg some (by kernel_rfl))
  f298 := Tryd.func43.trans (congrArg some (by kernel_rfl))
  f299 := Tryd.func44.trans (congrArg some (by kernel_rfl))
  f300 := Tryd.func46.trans (congrArg some (by kernel_rfl))
  f301 := Tryd.func47.trans (congrArg some (by kernel_rfl))
  f328 := Tryd.func50.trans (congrArg some (by kernel_rfl))
  f329 := Tryd.func51.trans (congrArg some (by kernel_rfl))
  f330 := Tryd.func52.trans (congrArg some (by kernel_rfl))
  f331 := Tryd.func53.trans (congrArg some (by kernel_rfl))
  f332 := Tryd.func54.trans (congrArg some (by kernel_rfl))
  f343 := Tryd.func56.trans (congrArg some (by kernel_rfl))
  t0 := Tryd.underlying0
  a0 := Tryd.isAgg0
  z0 := Tryd.sizeOf0
  v0 := Tryd.zeroValue0
  t3 := Tryd.underlying3
  a3 := Tryd.isAgg3
  z3 := Tryd.sizeOf3
  v3 := Tryd.zeroValue3
  t4 := Tryd.underlying4
  a4 := Tryd.isAgg4
  z4 := Tryd.sizeOf4
  v4 := Tryd.zeroValue4
  t5 := Tryd.underlying5
  a5 := Tryd.isAgg5
  z5 := Tryd.sizeOf5
  v5 := Tryd.zeroValue5
  t9 := Tryd.underlying9
  a9 := Tryd.isAgg9
  z9 := Tryd.sizeOf9
  v9 := Tryd.zeroValue9
  t28 := Tryd.underlying27
  a28 := Tryd.isAgg27
  z28 := Tryd.sizeOf27
  v28 := Tryd.zeroValue27
  t46 := Tryd.underlying80
  a46 := Tryd.isAgg80
  z46 := Tryd.sizeOf80
  v46 := Tryd.zeroValue80
  t51 := Tryd.underlying96
  a51 := Tryd.isAgg96
  z51 := Tryd.sizeOf96
  v51 := Tryd.zeroValue96
  t53 := Tryd.underlying98
  a53 := Tryd.isAgg98
  z53 := Tryd.sizeOf98
  v53 := Tryd.zeroValue98
  t131 := Tryd.underlying93
  a131 := Tryd.isAgg93
  z131 := Tryd.sizeOf93
  v131 := Tryd.zeroValue93
  t182 := Tryd.underlying87
  a182 := Tryd.isAgg87
  z182 := Tryd.sizeOf87
  v182 := Tryd.zeroValue87
  t183 := Tryd.underlying88
  a183 := Tryd.isAgg88
  z183 := Tryd.sizeOf88
  v183 := Tryd.zeroValue88
  t218 := Tryd.underlying99
  a218 := Tryd.isAgg99
  z218 := Tryd.sizeOf99
  v218 := Tryd.zeroValue99
  t222 := Tryd.underlying103
  a222 := Tryd.isAgg103
  z222 := Tryd.sizeOf103
  v222 := Tryd.zeroValue103
  t228 := Tryd.underlying106
  a228 := Tryd.isAgg106
  z228 := Tryd.sizeOf106
  v228 := Tryd.zeroValue106
  t229 := Tryd.underlying31
  a229 := Tryd.isAgg31
  z229 := Tryd.sizeOf31
  v229 := Tryd.zeroValue31 }
open Go.Sort Go.RowKit in
theorem Tryd.slices_Sort_int (blk off cap : Nat) (zs : List Int) (w : World) (hH : Holds (Value.int .i64) w blk off zs.toArray) (hblk : blk < w.heap.size) (hsz : zs.length < 4611686018427387904) :
    Calls Tryd.prog 24 #[.slice (some ⟨blk, off, none⟩) zs.length cap] w fun e w' =>
      e = .returned (.tuple #[]) ∧ ∃ n os, w' = grow (putRow (Value.int .i64) (Sort.ahead w n) blk off (zs.mergeSort fun x y => decide (x ≤ y)).toArray) os := Any.slices_Sort_int Tryd.lays189 blk off cap zs w hH hblk hsz
def Tryd.lays111_ren : Go.Shelf.Ren := ⟨fun | 111 => 14 | n => n, fun | 28 => 27 | 3 => 3 | 4 => 4 | 0 => 0 | n => n, fun | n => n⟩
theorem Tryd.lays111 : Go.Proofs.Lays.n111 Tryd.prog Tryd.lays111_ren := {
  mixed := by kernel_rfl
  f111 := Tryd.func14.trans (congrArg some (by kernel_rfl))
  t0 := Tryd.underlying0
  a0 := Tryd.isAgg0
  z0 := Tryd.sizeOf0
  v0 := Tryd.zeroValue0
  t3 := Tryd.underlying3
  a3 := Tryd.isAgg3
  z3 := Tryd.sizeOf3
  v3 := Tryd.zeroValue3
  t4 := Tryd.underlying4
  a4 := Tryd.isAgg4
  z4 := Tryd.sizeOf4
  v4 := Tryd.zeroValue4
  t28 := Tryd.underlying27
  a28 := Tryd.isAgg27
  z28 := Tryd.sizeOf27
  v28 := Tryd.zeroValue27 }
open Go.RowKit Go.Lib in
theorem Tryd.slices_Equal_int (b1 o1 n c b2 o2 m d : Nat) (xs ys : List Int) (w : World) (hx : n ≤ xs.length) (hy : m ≤ ys.length) (hbig : n ≤ 9223372036854775807) (hbig2 : m ≤ 9223372036854775807) (hc1 : ∀ j, j < xs.length → w.cell? ⟨b1, o1 + j, none⟩ = some (.int .i64 (xs.getD j 0))) (hc2 : ∀ j, j < ys.length → w.cell? ⟨b2, o2 + j, none⟩ = some (.int .i64 (ys.getD j 0))) :
    Calls Tryd.prog 14 #[.slice (some ⟨b1, o1, none⟩) n c, .slice (some ⟨b2, o2, none⟩) m d] w fun e w' => e = .returned (.bool (xs.take n == ys.take m)) ∧ ∃ q, w' = w.drewN q := Any.slices_Equal_int Tryd.lays111 b1 o1 n c b2 o2 m d xs ys w hx hy hbig hbig2 hc1 hc2
open Go.RowKit Go.Lib in
theorem Tryd.slices_Equal_int_empty (a1 a2 : Option Addr) (c m d : Nat) (w : World) (hbig2 : m ≤ 9223372036854775807) :
    Calls Tryd.prog 14 #[.slice a1 0 c, .slice a2 m d] w fun e w' => e = .returned (.bool (decide (m = 0))) ∧ w' = w := Any.slices_Equal_int_empty Tryd.lays111 a1 a2 c m d w hbig2
def Tryd.laysNm215_ren : Go.Shelf.Ren := ⟨fun | 15 => 23 | n => n, fun | 22 => 27 | 3 => 3 | 4 => 4 | n => n, fun | n => n⟩
theorem Tryd.laysNm215 : Go.Proofs.Lays2.n15 Tryd.prog Tryd.laysNm215_ren := {
  mixed := by kernel_rfl
  f15 := Tryd.func23.trans (congrArg some (by kernel_rfl))
  t3 := Tryd.underlying3
  a3 := Tryd.isAgg3
  z3 := Tryd.sizeOf3
  v3 := Tryd.zeroValue3
  t4 := Tryd.underlying4
  a4 := Tryd.isAgg4
  z4 := Tryd.sizeOf4
  v4 := Tryd.zeroValue4
  t22 := Tryd.underlying27
  a22 := Tryd.isAgg27
  z22 := Tryd.sizeOf27
  v22 := Tryd.zeroValue27
  i3 := by kernel_rfl }
open Go.RowKit Go.Lib in
theorem Tryd.slices_Clone_int (b off n c : Nat) (zs : List Int) (w : World) (hz : n ≤ zs.length) (hbig : n * 8 ≤ 140737488355328) (hc : ∀ j, j < zs.length → w.cell? ⟨b, off + j, none⟩ = some (.int .i64 (zs.getD j 0))) :
    Calls Tryd.prog 23 #[.slice (some ⟨b, off, none⟩) n c] w fun e w' => ∃ v', e = .returned v' ∧ w'.ownsRow w.heap.size 3 1 v' n ((zs.take n).map (Value.int .i64)) ∧ v' ≠ .slice none 0 0 ∧ Below w.heap.size w w' := Any.slices_Clone_int Tryd.laysNm215 b off n c zs w hz hbig hc
open Go.RowKit Go.Lib in
theorem Tryd.slices_Clone_int_nil (n c : Nat) (w : World) :
    Calls Tryd.prog 23 #[.slice none n c] w fun e w' => e = .returned (.slice none 0 0) ∧ w' = w := Any.slices_Clone_int_nil Tryd.laysNm215 n c w
open Go.RowKit Go.Lib in
theorem Tryd.slices_Clone_int_zero (a : Addr) (c : Nat) (w : World) :
    Calls Tryd.prog 23 #[.slice (some a) 0 c] w fun e w' => ∃ v', e = .returned v' ∧ w'.ownsRow w.heap.size 3 1 v' 0 [] ∧ v' ≠ .slice none 0 0 ∧ Below w.heap.size w w' := Any.slices_Clone_int_zero Tryd.laysNm215 a c w
open Go.RowKit Go.Sort in
theorem Tryd.slices_Sort_int_none (p : Option Addr) (cap : Nat) (w : World) :
    Calls Tryd.prog 24 #[.slice p 0 cap] w fun e w' => e = .returned (.tuple #[]) ∧ w' = w := Any.slices_Sort_int_none Tryd.lays189 p cap w
open Go.RowKit Go.Lib in
theorem Tryd.slices_Equal_int_lens (a1 a2 : Option Addr) (n c m d : Nat) (w : World) (hnm : n ≠ m) :
    Calls Tryd.prog 14 #[.slice a1 n c, .slice a2 m d] w fun e w' => e = .returned (.bool false) ∧ w' = w := Any.slices_Equal_int_lens Tryd.lays111 a1 a2 n c m d w hnm
end Go.Proofs
