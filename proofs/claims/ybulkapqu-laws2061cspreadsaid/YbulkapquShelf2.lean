/-
  More of the shelf's contracts laid at this dump, in plain words (written by the kit's lay-shelf.mjs and lay-plain.mjs, then cut down to what the proofs use).
-/
import Derived.Ground.MnProg
import Derived.Shelf.Bin.BEPutUint32
import Derived.Shelf.Bin.BEPutUint64
import Derived.Shelf.Slices.Equal
import Derived.Ground.Names2Prog
import Derived.Shelf.Slices.Empties
import Derived.Shelf.Slices.Empties2
import Derived.Test.YbulkapquShelf
namespace Go.Proofs
open Go.Shelf
def Yba.laysBin40_ren : Go.Shelf.Ren := ⟨fun | 40 => 53 | n => n, fun | 37 => 147 | 22 => 22 | 29 => 143 | 0 => 0 | 5 => 5 | 45 => 32 | n => n, fun | n => n⟩
theorem Yba.laysBin40 : Go.Proofs.LaysBin.n40 Yba.prog Yba.laysBin40_ren := {
  mixed := by kernel_rfl
  f40 := Yba.func53.trans (congrArg some (by kernel_rfl))
  t0 := Yba.underlying0
  a0 := Yba.isAgg0
  z0 := Yba.sizeOf0
  v0 := Yba.zeroValue0
  i0 := by kernel_rfl
  t5 := Yba.underlying5
  a5 := Yba.isAgg5
  z5 := Yba.sizeOf5
  v5 := Yba.zeroValue5
  i5 := by kernel_rfl
  t22 := Yba.underlying22
  a22 := Yba.isAgg22
  z22 := Yba.sizeOf22
  v22 := Yba.zeroValue22
  i22 := by kernel_rfl
  t29 := Yba.underlying143
  a29 := Yba.isAgg143
  z29 := Yba.sizeOf143
  v29 := Yba.zeroValue143
  i29 := by kernel_rfl
  t37 := Yba.underlying147
  a37 := Yba.isAgg147
  z37 := Yba.sizeOf147
  v37 := Yba.zeroValue147
  i37 := by kernel_rfl
  t45 := Yba.underlying32
  a45 := Yba.isAgg32
  z45 := Yba.sizeOf32
  v45 := Yba.zeroValue32
  i45 := by kernel_rfl }
theorem Yba.binary_BE_PutUint32 (g o n c v : Nat) (hv : v < 4294967296) (x0 x1 x2 x3 : Value) (w : World) (hn : 4 ≤ n) (c0 : w.cell? ⟨g, o, none⟩ = some x0) (c1 : w.cell? ⟨g, o + 1, none⟩ = some x1) (c2 : w.cell? ⟨g, o + 2, none⟩ = some x2) (c3 : w.cell? ⟨g, o + 3, none⟩ = some x3) (f0 : w.frozen? ⟨g, o, none⟩ = false) (f1 : w.frozen? ⟨g, o + 1, none⟩ = false) (f2 : w.frozen? ⟨g, o + 2, none⟩ = false) (f3 : w.frozen? ⟨g, o + 3, none⟩ = false) :
    Calls Yba.prog 53 #[.agg #[], .slice (some ⟨g, o, none⟩) n c, .int .u32 v] w fun e w' => e = .returned (.tuple #[]) ∧ w' = (w.alloc (.cells #[] 147)).setCells g o (Lib.byteCells (Lib.beBytes 4 v)) := Any.binary_BE_PutUint32 Yba.laysBin40 g o n c v hv x0 x1 x2 x3 w hn c0 c1 c2 c3 f0 f1 f2 f3
def Yba.laysBin43_ren : Go.Shelf.Ren := ⟨fun | 43 => 56 | n => n, fun | 37 => 147 | 22 => 22 | 33 => 48 | 0 => 0 | 5 => 5 | 45 => 32 | n => n, fun | n => n⟩
theorem Yba.laysBin43 : Go.Proofs.LaysBin.n43 Yba.prog Yba.laysBin43_ren := {
  mixed := by kernel_rfl
  f43 := Yba.func56.trans (congrArg some (by kernel_rfl))
  t0 := Yba.underlying0
  a0 := Yba.isAgg0
  z0 := Yba.sizeOf0
  v0 := Yba.zeroValue0
  i0 := by kernel_rfl
  t5 := Yba.underlying5
  a5 := Yba.isAgg5
  z5 := Yba.sizeOf5
  v5 := Yba.zeroValue5
  i5 := by kernel_rfl
  t22 := Yba.underlying22
  a22 := Yba.isAgg22
  z22 := Yba.sizeOf22
  v22 := Yba.zeroValue22
  i22 := by kernel_rfl
  t33 := Yba.underlying48
  a33 := Yba.isAgg48
  z33 := Yba.sizeOf48
  v33 := Yba.zeroValue48
  i33 := by kernel_rfl
  t37 := Yba.underlying147
  a37 := Yba.isAgg147
  z37 := Yba.sizeOf147
  v37 := Yba.zeroValue147
  i37 := by kernel_rfl
  t45 := Yba.underlying32
  a45 := Yba.isAgg32
  z45 := Yba.sizeOf32
  v45 := Yba.zeroValue32
  i45 := by kernel_rfl }
theorem Yba.binary_BE_PutUint64 (g o n c v : Nat) (hv : v < 18446744073709551616) (x0 x1 x2 x3 x4 x5 x6 x7 : Value) (w : World) (hn : 8 ≤ n) (c0 : w.cell? ⟨g, o, none⟩ = some x0) (c1 : w.cell? ⟨g, o + 1, none⟩ = some x1) (c2 : w.cell? ⟨g, o + 2, none⟩ = some x2) (c3 : w.cell? ⟨g, o + 3, none⟩ = some x3) (c4 : w.cell? ⟨g, o + 4, none⟩ = some x4) (c5 : w.cell? ⟨g, o + 5, none⟩ = some x5) (c6 : w.cell? ⟨g, o + 6, none⟩ = some x6) (c7 : w.cell? ⟨g, o + 7, none⟩ = some x7) (f0 : w.frozen? ⟨g, o, none⟩ = false) (f1 : w.frozen? ⟨g, o + 1, none⟩ = false) (f2 : w.frozen? ⟨g, o + 2, none⟩ = false) (f3 : w.frozen? ⟨g, o + 3, none⟩ = false) (f4 : w.frozen? ⟨g, o + 4, none⟩ = false) (f5 : w.frozen? ⟨g, o + 5, none⟩ = false) (f6 : w.frozen? ⟨g, o + 6, none⟩ = false) (f7 : w.frozen? ⟨g, o + 7, none⟩ = false) :
    Calls Yba.prog 56 #[.agg #[], .slice (some ⟨g, o, none⟩) n c, .int .u64 v] w fun e w' => e = .returned (.tuple #[]) ∧ w' = (w.alloc (.cells #[] 147)).setCells g o (Lib.byteCells (Lib.beBytes 8 v)) := Any.binary_BE_PutUint64 Yba.laysBin43 g o n c v hv x0 x1 x2 x3 x4 x5 x6 x7 w hn c0 c1 c2 c3 c4 c5 c6 c7 f0 f1 f2 f3 f4 f5 f6 f7
def Yba.lays111_ren : Go.Shelf.Ren := ⟨fun | 111 => 12 | n => n, fun | 28 => 26 | 3 => 3 | 4 => 4 | 0 => 0 | n => n, fun | n => n⟩
theorem Yba.lays111 : Go.Proofs.Lays.n111 Yba.prog Yba.lays111_ren := {
  mixed := by kernel_rfl
  f111 := Yba.func12.trans (congrArg some (by kernel_rfl))
  t0 := Yba.underlying0
  a0 := Yba.isAgg0
  z0 := Yba.sizeOf0
  v0 := Yba.zeroValue0
  t3 := Yba.underlying3
  a3 := Yba.isAgg3
  z3 := Yba.sizeOf3
  v3 := Yba.zeroValue3
  t4 := Yba.underlying4
  a4 := Yba.isAgg4
  z4 := Yba.sizeOf4
  v4 := Yba.zeroValue4
  t28 := Yba.underlying26
  a28 := Yba.isAgg26
  z28 := Yba.sizeOf26
  v28 := Yba.zeroValue26 }
theorem Yba.slices_Equal_int (b1 o1 n c b2 o2 m d : Nat) (xs ys : List Int) (w : World) (hx : n ≤ xs.length) (hy : m ≤ ys.length) (hbig : n ≤ 9223372036854775807) (hbig2 : m ≤ 9223372036854775807) (hc1 : ∀ j, j < xs.length → w.cell? ⟨b1, o1 + j, none⟩ = some (.int .i64 (xs.getD j 0))) (hc2 : ∀ j, j < ys.length → w.cell? ⟨b2, o2 + j, none⟩ = some (.int .i64 (ys.getD j 0))) :
    Calls Yba.prog 12 #[.slice (some ⟨b1, o1, none⟩) n c, .slice (some ⟨b2, o2, none⟩) m d] w fun e w' => e = .returned (.bool (xs.take n == ys.take m)) ∧ ∃ q, w' = w.drewN q := Any.slices_Equal_int Yba.lays111 b1 o1 n c b2 o2 m d xs ys w hx hy hbig hbig2 hc1 hc2
theorem Yba.slices_Equal_int_empty (a1 a2 : Option Addr) (c m d : Nat) (w : World) (hbig2 : m ≤ 9223372036854775807) :
    Calls Yba.prog 12 #[.slice a1 0 c, .slice a2 m d] w fun e w' => e = .returned (.bool (decide (m = 0))) ∧ w' = w := Any.slices_Equal_int_empty Yba.lays111 a1 a2 c m d w hbig2
theorem Yba.slices_Equal_int_lens (a1 a2 : Option Addr) (n c m d : Nat) (w : World) (hnm : n ≠ m) :
    Calls Yba.prog 12 #[.slice a1 n c, .slice a2 m d] w fun e w' => e = .returned (.bool false) ∧ w' = w := Any.slices_Equal_int_lens Yba.lays111 a1 a2 n c m d w hnm
end Go.Proofs
