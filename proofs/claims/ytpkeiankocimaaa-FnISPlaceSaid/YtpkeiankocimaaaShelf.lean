/- THE SHELF's CONTRACTS AT THIS DUMP, IN PLAIN WORDS (written by the kit's lay-plain.mjs). -/
import Derived.Shelf.SlicesG.CompactI
import Derived.Shelf.SortG.Plain
import Derived.Ground.SlgnProg
import Derived.Test.YtpkeiankocimaaaProg
namespace Go.Proofs
open Go.Shelf
def Try.laysSort64_ren : Go.Shelf.Ren := ⟨fun | 53 => 8 | 64 => 21 | 63 => 20 | 78 => 40 | 79 => 41 | 70 => 31 | 71 => 32 | 72 => 33 | 73 => 34 | 74 => 35 | 75 => 36 | 59 => 37 | 76 => 38 | 77 => 39 | 88 => 50 | 89 => 51 | 90 => 52 | 91 => 53 | 92 => 54 | 68 => 55 | 96 => 62 | n => n, fun | 22 => 25 | 23 => 2 | 3 => 3 | 51 => 54 | 0 => 0 | 67 => 76 | 69 => 78 | 4 => 4 | 61 => 68 | 60 => 67 | 44 => 73 | 5 => 5 | 9 => 9 | 75 => 90 | 79 => 94 | 83 => 110 | 84 => 111 | n => n, fun | n => n⟩
theorem Try.laysSort64 : Go.Proofs.SlLaysN.n53 Try.prog Try.laysSort64_ren := {
  mixed := by kernel_rfl
  f53 := ⟨Try.f8.name, by decide, Try.func8.trans (congrArg some (by kernel_rfl))⟩
  f59 := ⟨Try.f37.name, by decide, Try.func37.trans (congrArg some (by kernel_rfl))⟩
  f63 := ⟨Try.f20.name, by decide, Try.func20.trans (congrArg some (by kernel_rfl))⟩
  f64 := Try.func21.trans (congrArg some (by kernel_rfl))
  f68 := ⟨Try.f55.name, by decide, Try.func55.trans (congrArg some (by kernel_rfl))⟩
  f70 := ⟨Try.f31.name, by decide, Try.func31.trans (congrArg some (by kernel_rfl))⟩
  f71 := ⟨Try.f32.name, by decide, Try.func32.trans (congrArg some (by kernel_rfl))⟩
  f72 := ⟨Try.f33.name, by decide, Try.func33.trans (congrArg some (by kernel_rfl))⟩
  f73 := ⟨Try.f34.name, by decide, Try.func34.trans (congrArg some (by kernel_rfl))⟩
  f74 := ⟨Try.f35.name, by decide, Try.func35.trans (congrArg some (by kernel_rfl))⟩
  f75 := ⟨Try.f36.name, by decide, Try.func36.trans (congrArg some (by kernel_rfl))⟩
  f76 := ⟨Try.f38.name, by decide, Try.func38.trans (congrArg some (by kernel_rfl))⟩
  f77 := ⟨Try.f39.name, by decide, Try.func39.trans (congrArg some (by kernel_rfl))⟩
  f78 := Try.func40.trans (congrArg some (by kernel_rfl))
  f79 := Try.func41.trans (congrArg some (by kernel_rfl))
  f88 := ⟨Try.f50.name, by decide, Try.func50.trans (congrArg some (by kernel_rfl))⟩
  f89 := Try.func51.trans (congrArg some (by kernel_rfl))
  f90 := Try.func52.trans (congrArg some (by kernel_rfl))
  f91 := ⟨Try.f53.name, by decide, Try.func53.trans (congrArg some (by kernel_rfl))⟩
  f92 := ⟨Try.f54.name, by decide, Try.func54.trans (congrArg some (by kernel_rfl))⟩
  f96 := ⟨Try.f62.name, by decide, Try.func62.trans (congrArg some (by kernel_rfl))⟩
  t0 := Try.underlying0
  a0 := Try.isAgg0
  z0 := Try.sizeOf0
  v0 := Try.zeroValue0
  t3 := Try.underlying3
  a3 := Try.isAgg3
  z3 := Try.sizeOf3
  v3 := Try.zeroValue3
  t4 := Try.underlying4
  a4 := Try.isAgg4
  z4 := Try.sizeOf4
  v4 := Try.zeroValue4
  t5 := Try.underlying5
  a5 := Try.isAgg5
  z5 := Try.sizeOf5
  v5 := Try.zeroValue5
  t9 := Try.underlying9
  a9 := Try.isAgg9
  z9 := Try.sizeOf9
  v9 := Try.zeroValue9
  t22 := Try.underlying25
  a22 := Try.isAgg25
  z22 := Try.sizeOf25
  v22 := Try.zeroValue25
  t23 := Try.underlying2
  a23 := Try.isAgg2
  z23 := Try.sizeOf2
  v23 := Try.zeroValue2
  t44 := Try.underlying73
  a44 := Try.isAgg73
  z44 := Try.sizeOf73
  v44 := Try.zeroValue73
  t51 := Try.underlying54
  a51 := Try.isAgg54
  z51 := Try.sizeOf54
  v51 := Try.zeroValue54
  t60 := Try.underlying67
  a60 := Try.isAgg67
  z60 := Try.sizeOf67
  v60 := Try.zeroValue67
  t61 := Try.underlying68
  a61 := Try.isAgg68
  z61 := Try.sizeOf68
  v61 := Try.zeroValue68
  t67 := Try.underlying76
  a67 := Try.isAgg76
  z67 := Try.sizeOf76
  v67 := Try.zeroValue76
  t69 := Try.underlying78
  a69 := Try.isAgg78
  z69 := Try.sizeOf78
  v69 := Try.zeroValue78
  t75 := Try.underlying90
  a75 := Try.isAgg90
  z75 := Try.sizeOf90
  v75 := Try.zeroValue90
  t79 := Try.underlying94
  a79 := Try.isAgg94
  z79 := Try.sizeOf94
  v79 := Try.zeroValue94
  t83 := Try.underlying110
  a83 := Try.isAgg110
  z83 := Try.sizeOf110
  v83 := Try.zeroValue110
  t84 := Try.underlying111
  a84 := Try.isAgg111
  z84 := Try.sizeOf111
  v84 := Try.zeroValue111 }
open Go.Sort Go.RowKit in
theorem Try.slices_Sort_int (blk off cap : Nat) (zs : List Int) (w : World) (hH : Holds (Value.int .i64) w blk off zs.toArray) (hblk : blk < w.heap.size) (hsz : zs.length < 4611686018427387904) :
    Calls Try.prog 8 #[.slice (some ⟨blk, off, none⟩) zs.length cap] w fun e w' =>
      e = .returned (.tuple #[]) ∧ ∃ n os, w' = grow (putRow (Value.int .i64) (Sort.ahead w n) blk off (zs.mergeSort fun x y => decide (x ≤ y)).toArray) os := AnyG.slices_Sort_int Try.laysSort64 blk off cap zs w hH hblk hsz
def Try.laysComp64_ren : Go.Shelf.Ren := ⟨fun | 43 => 9 | n => n, fun | 22 => 25 | 23 => 2 | 3 => 3 | 4 => 4 | 0 => 0 | n => n, fun | n => n⟩
theorem Try.laysComp64 : Go.Proofs.SlLaysN.n43 Try.prog Try.laysComp64_ren := {
  mixed := by kernel_rfl
  f43 := ⟨Try.f9.name, by decide, Try.func9.trans (congrArg some (by kernel_rfl))⟩
  t0 := Try.underlying0
  a0 := Try.isAgg0
  z0 := Try.sizeOf0
  v0 := Try.zeroValue0
  t3 := Try.underlying3
  a3 := Try.isAgg3
  z3 := Try.sizeOf3
  v3 := Try.zeroValue3
  t4 := Try.underlying4
  a4 := Try.isAgg4
  z4 := Try.sizeOf4
  v4 := Try.zeroValue4
  t22 := Try.underlying25
  a22 := Try.isAgg25
  z22 := Try.sizeOf25
  v22 := Try.zeroValue25
  t23 := Try.underlying2
  a23 := Try.isAgg2
  z23 := Try.sizeOf2
  v23 := Try.zeroValue2
  i23 := by kernel_rfl }
open Go.Sort Go.RowKit in
theorem Try.slices_Compact_int (blk off cap : Nat) (zs : List Int) (w : World) (hH : Holds (Value.int .i64) w blk off zs.toArray) (hsz : zs.length ≤ 9223372036854775807) (hcap : zs.length ≤ cap) :
    Calls Try.prog 9 #[.slice (some ⟨blk, off, none⟩) zs.length cap] w fun e w' => e = .returned (.slice (some ⟨blk, off, none⟩) (Lib.compact zs).length cap) ∧ ∃ q, w' = putRow (Value.int .i64) (Sort.ahead w q) blk off (Lib.compact zs ++ List.replicate (zs.length - (Lib.compact zs).length) 0).toArray := AnyG.slices_Compact_int Try.laysComp64 blk off cap zs w hH hsz hcap
end Go.Proofs
