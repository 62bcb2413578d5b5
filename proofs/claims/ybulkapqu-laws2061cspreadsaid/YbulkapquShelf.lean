/-
  The shelf's contracts laid at this dump, in plain words (written by the kit's lay-shelf.mjs and lay-plain.mjs, then cut down to what the proofs use).
-/
import Derived.Ground.MnProg
import Derived.Shelf.Bin.BEUint32
import Derived.Shelf.Bin.BEUint64
import Derived.Ground.Names2Prog
import Derived.Shelf.Slices.Clone
import Derived.Shelf.Slices.Delete
import Derived.Shelf.Slices.Cells
import Derived.Ground.SlsfProg
import Derived.Shelf.SlSortCmp.Whole1
import Derived.Test.YbulkapquProg
namespace Go.Proofs
open Go.Shelf
def Yba.laysBin39_ren : Go.Shelf.Ren := ⟨fun | 39 => 52 | n => n, fun | 37 => 147 | 22 => 22 | 29 => 143 | 0 => 0 | 5 => 5 | 45 => 32 | n => n, fun | n => n⟩
theorem Yba.laysBin39 : Go.Proofs.LaysBin.n39 Yba.prog Yba.laysBin39_ren := {
  mixed := by kernel_rfl
  f39 := Yba.func52.trans (congrArg some (by kernel_rfl))
  t0 := Yba.underlying0
  a0 := Yba.isAgg0
  z0 := Yba.sizeOf0
  v0 := Yba.zeroValue0
  i0 := by kernel_rfl
  t5 := Yba.underlying5
  a5 := Yba.isAgg5
  z5 := Yba.sizeOf5
  v5 := Yba.zeroValue5
  i5 := by kernel_rfl
  t22 := Yba.underlying22
  a22 := Yba.isAgg22
  z22 := Yba.sizeOf22
  v22 := Yba.zeroValue22
  i22 := by kernel_rfl
  t29 := Yba.underlying143
  a29 := Yba.isAgg143
  z29 := Yba.sizeOf143
  v29 := Yba.zeroValue143
  i29 := by kernel_rfl
  t37 := Yba.underlying147
  a37 := Yba.isAgg147
  z37 := Yba.sizeOf147
  v37 := Yba.zeroValue147
  i37 := by kernel_rfl
  t45 := Yba.underlying32
  a45 := Yba.isAgg32
  z45 := Yba.sizeOf32
  v45 := Yba.zeroValue32
  i45 := by kernel_rfl }
open Go.RowKit in
theorem Yba.binary_BE_Uint32 (g o n c : Nat) (b0 b1 b2 b3 : UInt8) (w : World) (hn : 4 ≤ n) (c0 : w.cell? ⟨g, o, none⟩ = some (.int .u8 b0.toNat)) (c1 : w.cell? ⟨g, o + 1, none⟩ = some (.int .u8 b1.toNat)) (c2 : w.cell? ⟨g, o + 2, none⟩ = some (.int .u8 b2.toNat)) (c3 : w.cell? ⟨g, o + 3, none⟩ = some (.int .u8 b3.toNat)) :
    Calls Yba.prog 52 #[.agg #[], .slice (some ⟨g, o, none⟩) n c] w fun e w' => e = .returned (.int .u32 (Lib.beNat [b0, b1, b2, b3])) ∧ Below w.heap.size w w' := Any.binary_BE_Uint32 Yba.laysBin39 g o n c b0 b1 b2 b3 w hn c0 c1 c2 c3
def Yba.laysBin42_ren : Go.Shelf.Ren := ⟨fun | 42 => 55 | n => n, fun | 37 => 147 | 22 => 22 | 33 => 48 | 0 => 0 | 5 => 5 | 45 => 32 | n => n, fun | n => n⟩
theorem Yba.laysBin42 : Go.Proofs.LaysBin.n42 Yba.prog Yba.laysBin42_ren := {
  mixed := by kernel_rfl
  f42 := Yba.func55.trans (congrArg some (by kernel_rfl))
  t0 := Yba.underlying0
  a0 := Yba.isAgg0
  z0 := Yba.sizeOf0
  v0 := Yba.zeroValue0
  i0 := by kernel_rfl
  t5 := Yba.underlying5
  a5 := Yba.isAgg5
  z5 := Yba.sizeOf5
  v5 := Yba.zeroValue5
  i5 := by kernel_rfl
  t22 := Yba.underlying22
  a22 := Yba.isAgg22
  z22 := Yba.sizeOf22
  v22 := Yba.zeroValue22
  i22 := by kernel_rfl
  t33 := Yba.underlying48
  a33 := Yba.isAgg48
  z33 := Yba.sizeOf48
  v33 := Yba.zeroValue48
  i33 := by kernel_rfl
  t37 := Yba.underlying147
  a37 := Yba.isAgg147
  z37 := Yba.sizeOf147
  v37 := Yba.zeroValue147
  i37 := by kernel_rfl
  t45 := Yba.underlying32
  a45 := Yba.isAgg32
  z45 := Yba.sizeOf32
  v45 := Yba.zeroValue32
  i45 := by kernel_rfl }
open Go.RowKit in
theorem Yba.binary_BE_Uint64 (g o n c : Nat) (b0 b1 b2 b3 b4 b5 b6 b7 : UInt8) (w : World) (hn : 8 ≤ n) (c0 : w.cell? ⟨g, o, none⟩ = some (.int .u8 b0.toNat)) (c1 : w.cell? ⟨g, o + 1, none⟩ = some (.int .u8 b1.toNat)) (c2 : w.cell? ⟨g, o + 2, none⟩ = some (.int .u8 b2.toNat)) (c3 : w.cell? ⟨g, o + 3, none⟩ = some (.int .u8 b3.toNat)) (c4 : w.cell? ⟨g, o + 4, none⟩ = some (.int .u8 b4.toNat)) (c5 : w.cell? ⟨g, o + 5, none⟩ = some (.int .u8 b5.toNat)) (c6 : w.cell? ⟨g, o + 6, none⟩ = some (.int .u8 b6.toNat)) (c7 : w.cell? ⟨g, o + 7, none⟩ = some (.int .u8 b7.toNat)) :
    Calls Yba.prog 55 #[.agg #[], .slice (some ⟨g, o, none⟩) n c] w fun e w' => e = .returned (.int .u64 (Lib.beNat [b0, b1, b2, b3, b4, b5, b6, b7])) ∧ Below w.heap.size w w' := Any.binary_BE_Uint64 Yba.laysBin42 g o n c b0 b1 b2 b3 b4 b5 b6 b7 w hn c0 c1 c2 c3 c4 c5 c6 c7
def Yba.laysNm215_ren : Go.Shelf.Ren := ⟨fun | 15 => 14 | n => n, fun | 22 => 26 | 3 => 3 | 4 => 4 | n => n, fun | n => n⟩
theorem Yba.laysNm215 : Go.Proofs.Lays2.n15 Yba.prog Yba.laysNm215_ren := {
  mixed := by kernel_rfl
  f15 := Yba.func14.trans (congrArg some (by kernel_rfl))
  t3 := Yba.underlying3
  a3 := Yba.isAgg3
  z3 := Yba.sizeOf3
  v3 := Yba.zeroValue3
  t4 := Yba.underlying4
  a4 := Yba.isAgg4
  z4 := Yba.sizeOf4
  v4 := Yba.zeroValue4
  t22 := Yba.underlying26
  a22 := Yba.isAgg26
  z22 := Yba.sizeOf26
  v22 := Yba.zeroValue26
  i3 := by kernel_rfl }
open Go.RowKit Go.Lib in
theorem Yba.slices_Clone_int (b off n c : Nat) (zs : List Int) (w : World) (hz : n ≤ zs.length) (hbig : n * 8 ≤ 140737488355328) (hc : ∀ j, j < zs.length → w.cell? ⟨b, off + j, none⟩ = some (.int .i64 (zs.getD j 0))) :
    Calls Yba.prog 14 #[.slice (some ⟨b, off, none⟩) n c] w fun e w' => ∃ v', e = .returned v' ∧ w'.ownsRow w.heap.size 3 1 v' n ((zs.take n).map (Value.int .i64)) ∧ v' ≠ .slice none 0 0 ∧ Below w.heap.size w w' := Any.slices_Clone_int Yba.laysNm215 b off n c zs w hz hbig hc
def Yba.laysNm223_ren : Go.Shelf.Ren := ⟨fun | 23 => 31 | n => n, fun | 22 => 26 | 3 => 3 | 4 => 4 | 0 => 0 | n => n, fun | n => n⟩
theorem Yba.laysNm223 : Go.Proofs.Lays2.n23 Yba.prog Yba.laysNm223_ren := {
  mixed := by kernel_rfl
  f23 := Yba.func31.trans (congrArg some (by kernel_rfl))
  t0 := Yba.underlying0
  a0 := Yba.isAgg0
  z0 := Yba.sizeOf0
  v0 := Yba.zeroValue0
  t3 := Yba.underlying3
  a3 := Yba.isAgg3
  z3 := Yba.sizeOf3
  v3 := Yba.zeroValue3
  t4 := Yba.underlying4
  a4 := Yba.isAgg4
  z4 := Yba.sizeOf4
  v4 := Yba.zeroValue4
  t22 := Yba.underlying26
  a22 := Yba.isAgg26
  z22 := Yba.sizeOf26
  v22 := Yba.zeroValue26
  i3 := by kernel_rfl }
open Go.RowKit Go.Lib Go.Sort in
theorem Yba.slices_Delete_int_cells (b off n c i j : Nat) (zs : List Int) (w : World) (hz : n ≤ zs.length) (hcap : n ≤ c) (hm : c ≤ 9223372036854775807) (hij : i ≤ j) (hj : j ≤ n) (hc : ∀ j, j < zs.length → w.cell? ⟨b, off + j, none⟩ = some (.int .i64 (zs.getD j 0))) (hf : ∀ j, j < n → w.frozen? ⟨b, off + j, none⟩ = false) :
    Calls Yba.prog 31 #[.slice (some ⟨b, off, none⟩) n c, .int .i64 i, .int .i64 j] w fun e w' => e = .returned (.slice (some ⟨b, off, none⟩) (n - (j - i)) c) ∧ ∃ q, w' = (w.drewN q).setCells b off (((zs.take n).take i ++ (zs.take n).drop j ++ List.replicate (j - i) 0).map (Value.int .i64)) := Any.slices_Delete_int_cells Yba.laysNm223 b off n c i j zs w hz hcap hm hij hj hc hf
def Yba.laysSlF6_f28_ren : Go.Shelf.Ren := ⟨fun | 6 => 28 | 15 => 40 | 14 => 46 | 28 => 68 | 29 => 69 | 20 => 84 | 21 => 85 | 22 => 86 | 23 => 87 | 24 => 88 | 25 => 89 | 26 => 90 | 27 => 91 | 46 => 105 | 47 => 94 | 48 => 95 | 49 => 106 | 50 => 107 | 57 => 111 | n => n, fun | 22 => 26 | 24 => 3 | 25 => 121 | 3 => 3 | 39 => 32 | 0 => 0 | 53 => 143 | 55 => 48 | 4 => 4 | 46 => 158 | 45 => 157 | 50 => 123 | 5 => 5 | 9 => 9 | 66 => 182 | 70 => 186 | 76 => 206 | 77 => 207 | n => n, fun | n => n⟩
theorem Yba.laysSlF6_f28 : Go.Proofs.SlLaysF.n6 Yba.prog Yba.laysSlF6_f28_ren := {
  mixed := by kernel_rfl
  f6 := ⟨Yba.f28.name, by decide, Yba.func28.trans (congrArg some (by kernel_rfl))⟩
  f14 := ⟨Yba.f46.name, by decide, Yba.func46.trans (congrArg some (by kernel_rfl))⟩
  f15 := Yba.func40.trans (congrArg some (by kernel_rfl))
  f20 := ⟨Yba.f84.name, by decide, Yba.func84.trans (congrArg some (by kernel_rfl))⟩
  f21 := ⟨Yba.f85.name, by decide, Yba.func85.trans (congrArg some (by kernel_rfl))⟩
  f22 := ⟨Yba.f86.name, by decide, Yba.func86.trans (congrArg some (by kernel_rfl))⟩
  f23 := ⟨Yba.f87.name, by decide, Yba.func87.trans (congrArg some (by kernel_rfl))⟩
  f24 := ⟨Yba.f88.name, by decide, Yba.func88.trans (congrArg some (by kernel_rfl))⟩
  f25 := ⟨Yba.f89.name, by decide, Yba.func89.trans (congrArg some (by kernel_rfl))⟩
  f26 := ⟨Yba.f90.name, by decide, Yba.func90.trans (congrArg some (by kernel_rfl))⟩
  f27 := ⟨Yba.f91.name, by decide, Yba.func91.trans (congrArg some (by kernel_rfl))⟩
  f28 := Yba.func68.trans (congrArg some (by kernel_rfl))
  f29 := Yba.func69.trans (congrArg some (by kernel_rfl))
  f46 := ⟨Yba.f105.name, by decide, Yba.func105.trans (congrArg some (by kernel_rfl))⟩
  f47 := Yba.func94.trans (congrArg some (by kernel_rfl))
  f48 := Yba.func95.trans (congrArg some (by kernel_rfl))
  f49 := ⟨Yba.f106.name, by decide, Yba.func106.trans (congrArg some (by kernel_rfl))⟩
  f50 := ⟨Yba.f107.name, by decide, Yba.func107.trans (congrArg some (by kernel_rfl))⟩
  f57 := ⟨Yba.f111.name, by decide, Yba.func111.trans (congrArg some (by kernel_rfl))⟩
  t0 := Yba.underlying0
  a0 := Yba.isAgg0
  z0 := Yba.sizeOf0
  v0 := Yba.zeroValue0
  t3 := Yba.underlying3
  a3 := Yba.isAgg3
  z3 := Yba.sizeOf3
  v3 := Yba.zeroValue3
  t4 := Yba.underlying4
  a4 := Yba.isAgg4
  z4 := Yba.sizeOf4
  v4 := Yba.zeroValue4
  t5 := Yba.underlying5
  a5 := Yba.isAgg5
  z5 := Yba.sizeOf5
  v5 := Yba.zeroValue5
  t9 := Yba.underlying9
  a9 := Yba.isAgg9
  z9 := Yba.sizeOf9
  v9 := Yba.zeroValue9
  t22 := Yba.underlying26
  a22 := Yba.isAgg26
  z22 := Yba.sizeOf26
  v22 := Yba.zeroValue26
  a24 := Yba.isAgg3
  z24 := Yba.sizeOf3
  t25 := Yba.underlying121
  a25 := Yba.isAgg121
  z25 := Yba.sizeOf121
  v25 := Yba.zeroValue121
  t39 := Yba.underlying32
  a39 := Yba.isAgg32
  z39 := Yba.sizeOf32
  v39 := Yba.zeroValue32
  t45 := Yba.underlying157
  a45 := Yba.isAgg157
  z45 := Yba.sizeOf157
  v45 := Yba.zeroValue157
  t46 := Yba.underlying158
  a46 := Yba.isAgg158
  z46 := Yba.sizeOf158
  v46 := Yba.zeroValue158
  t50 := Yba.underlying123
  a50 := Yba.isAgg123
  z50 := Yba.sizeOf123
  v50 := Yba.zeroValue123
  t53 := Yba.underlying143
  a53 := Yba.isAgg143
  z53 := Yba.sizeOf143
  v53 := Yba.zeroValue143
  t55 := Yba.underlying48
  a55 := Yba.isAgg48
  z55 := Yba.sizeOf48
  v55 := Yba.zeroValue48
  t66 := Yba.underlying182
  a66 := Yba.isAgg182
  z66 := Yba.sizeOf182
  v66 := Yba.zeroValue182
  t70 := Yba.underlying186
  a70 := Yba.isAgg186
  z70 := Yba.sizeOf186
  v70 := Yba.zeroValue186
  t76 := Yba.underlying206
  a76 := Yba.isAgg206
  z76 := Yba.sizeOf206
  v76 := Yba.zeroValue206
  t77 := Yba.underlying207
  a77 := Yba.isAgg207
  z77 := Yba.sizeOf207
  v77 := Yba.zeroValue207 }
open Go.RowKit Go.Lib Go.Sort in
theorem Yba.slices_SortFunc {α : Type} [Inhabited α] (enc : α → Value) (h1 : OneCell enc) (cf : α → α → Int) (hO : SWO (ltOf cf)) (g : Nat) (cb : Array Value) (blk off cap : Nat) (d : Array α) (w : World) (eg : ∀ args w, (callFunc g args).run Yba.prog w = .ok (.enter g args) w) (hcmp : CmpLays1 Yba.prog g cb enc cf blk off d.size w) (hH : Holds enc w blk off d) (hblk : blk < w.heap.size) (hsz : d.size < 4611686018427387904) :
    Calls Yba.prog 28 #[.slice (some ⟨blk, off, none⟩) d.size cap, .func (.func g) #[] cb] w fun e w' =>
      e = .returned (.tuple #[]) ∧ ∃ d' n os, PermIn 0 d.size d d' ∧ SortedIn (ltOf cf) 0 d.size d' ∧ w' = sortWorld enc w blk off n d' os := Any.slices_SortFunc Yba.laysSlF6_f28 enc h1 cf hO g cb blk off cap d w eg hcmp hH hblk hsz
end Go.Proofs
