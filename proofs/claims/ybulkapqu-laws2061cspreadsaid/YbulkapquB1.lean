import Derived.Test.YbulkapquA4
import Derived.Test.YbulkapquShelf2
import Derived.Shelf.RegionOpenPlain
import Derived.Lib.EndianBits
import Derived.RegionTactic
import Derived.Deep.QuietTactic
namespace Go.Proofs.Ybulkapqu
open Go.RowKit Go.Sort

set_option maxHeartbeats 8000000 in
set_option maxRecDepth 100000 in
theorem uint32_calls (g o n c : Nat) (b0 b1 b2 b3 : UInt8) (w : World) (hn : 4 ≤ n)
    (c0 : w.cell? ⟨g, o, none⟩ = some (.int .u8 b0.toNat)) (c1 : w.cell? ⟨g, o + 1, none⟩ = some (.int .u8 b1.toNat)) (c2 : w.cell? ⟨g, o + 2, none⟩ = some (.int .u8 b2.toNat)) (c3 : w.cell? ⟨g, o + 3, none⟩ = some (.int .u8 b3.toNat)) :
    Calls Yba.prog 52 #[.agg #[], .slice (some ⟨g, o, none⟩) n c] w fun e w' => e = .returned (.int .u32 (Lib.beNat [b0, b1, b2, b3])) ∧ Gr w w' := by
  have mixed : Yba.prog.follows .mixedOrders = true := by kernel_rfl
  have e0 : (w.alloc (.cells #[] 147)).drew.cell? ⟨g, o, none⟩ = some (.int .u8 b0.toNat) := (World.cell?_alloc_lt _ _ _ (World.block_lt_of_cell? _ _ c0)).trans c0
  have h0 : b0.toNat < 256 := b0.toNat_lt
  have e1 : (w.alloc (.cells #[] 147)).drew.cell? ⟨g, o + 1, none⟩ = some (.int .u8 b1.toNat) := (World.cell?_alloc_lt _ _ _ (World.block_lt_of_cell? _ _ c1)).trans c1
  have h1 : b1.toNat < 256 := b1.toNat_lt
  have e2 : (w.alloc (.cells #[] 147)).drew.cell? ⟨g, o + 2, none⟩ = some (.int .u8 b2.toNat) := (World.cell?_alloc_lt _ _ _ (World.block_lt_of_cell? _ _ c2)).trans c2
  have h2 : b2.toNat < 256 := b2.toNat_lt
  have e3 : (w.alloc (.cells #[] 147)).drew.cell? ⟨g, o + 3, none⟩ = some (.int .u8 b3.toNat) := (World.cell?_alloc_lt _ _ _ (World.block_lt_of_cell? _ _ c3)).trans c3
  have h3 : b3.toNat < 256 := b3.toNat_lt
  have d0 : (w.alloc (.cells #[] 147)).cell? ⟨g, o, none⟩ = some (.int .u8 b0.toNat) := e0
  have d1 : (w.alloc (.cells #[] 147)).cell? ⟨g, o + 1, none⟩ = some (.int .u8 b1.toNat) := e1
  have d2 : (w.alloc (.cells #[] 147)).cell? ⟨g, o + 2, none⟩ = some (.int .u8 b2.toNat) := e2
  have d3 : (w.alloc (.cells #[] 147)).cell? ⟨g, o + 3, none⟩ = some (.int .u8 b3.toNat) := e3
  have hv : ((Lib.beNat [b0, b1, b2, b3] : Nat) : Int) = (b3.toNat : Int) + (b2.toNat : Int) * 256 + (b1.toNat : Int) * 65536 + (b0.toNat : Int) * 16777216 := by
    simp only [Lib.beNat, Lib.beFrom]
    push_cast
    omega
  go_enter Yba.func52, Yba.ntmps52
  go_wp2
  go_region_o
  go_wp2
  go_ret
  refine ⟨?_, ((Gr.refl w).alloc _).drew⟩
  simp (disch := omega) only [u32_or8, u32_or16, u32_or24]
  rw [hv]
  rfl

set_option maxHeartbeats 8000000 in
set_option maxRecDepth 100000 in
theorem uint64_calls (g o n c : Nat) (b0 b1 b2 b3 b4 b5 b6 b7 : UInt8) (w : World) (hn : 8 ≤ n) (c0 : w.cell? ⟨g, o, none⟩ = some (.int .u8 b0.toNat)) (c1 : w.cell? ⟨g, o + 1, none⟩ = some (.int .u8 b1.toNat)) (c2 : w.cell? ⟨g, o + 2, none⟩ = some (.int .u8 b2.toNat)) (c3 : w.cell? ⟨g, o + 3, none⟩ = some (.int .u8 b3.toNat)) (c4 : w.cell? ⟨g, o + 4, none⟩ = some (.int .u8 b4.toNat)) (c5 : w.cell? ⟨g, o + 5, none⟩ = some (.int .u8 b5.toNat)) (c6 : w.cell? ⟨g, o + 6, none⟩ = some (.int .u8 b6.toNat)) (c7 : w.cell? ⟨g, o + 7, none⟩ = some (.int .u8 b7.toNat)) :
    Calls Yba.prog 55 #[.agg #[], .slice (some ⟨g, o, none⟩) n c] w fun e w' => e = .returned (.int .u64 (Lib.beNat [b0, b1, b2, b3, b4, b5, b6, b7])) ∧ Gr w w' := by
  have mixed : Yba.prog.follows .mixedOrders = true := by kernel_rfl
  have e0 : ∀ q, ((w.alloc (.cells #[] 147)).drewN q).cell? ⟨g, o, none⟩ = some (.int .u8 b0.toNat) := fun q => (World.cell?_alloc_lt _ _ _ (World.block_lt_of_cell? _ _ c0)).trans c0
  have d0 : (w.alloc (.cells #[] 147)).cell? ⟨g, o, none⟩ = some (.int .u8 b0.toNat) := e0 0
  have h0 : b0.toNat < 256 := b0.toNat_lt
  have e1 : ∀ q, ((w.alloc (.cells #[] 147)).drewN q).cell? ⟨g, o + 1, none⟩ = some (.int .u8 b1.toNat) := fun q => (World.cell?_alloc_lt _ _ _ (World.block_lt_of_cell? _ _ c1)).trans c1
  have d1 : (w.alloc (.cells #[] 147)).cell? ⟨g, o + 1, none⟩ = some (.int .u8 b1.toNat) := e1 0
  have h1 : b1.toNat < 256 := b1.toNat_lt
  have e2 : ∀ q, ((w.alloc (.cells #[] 147)).drewN q).cell? ⟨g, o + 2, none⟩ = some (.int .u8 b2.toNat) := fun q => (World.cell?_alloc_lt _ _ _ (World.block_lt_of_cell? _ _ c2)).trans c2
  have d2 : (w.alloc (.cells #[] 147)).cell? ⟨g, o + 2, none⟩ = some (.int .u8 b2.toNat) := e2 0
  have h2 : b2.toNat < 256 := b2.toNat_lt
  have e3 : ∀ q, ((w.alloc (.cells #[] 147)).drewN q).cell? ⟨g, o + 3, none⟩ = some (.int .u8 b3.toNat) := fun q => (World.cell?_alloc_lt _ _ _ (World.block_lt_of_cell? _ _ c3)).trans c3
  have d3 : (w.alloc (.cells #[] 147)).cell? ⟨g, o + 3, none⟩ = some (.int .u8 b3.toNat) := e3 0
  have h3 : b3.toNat < 256 := b3.toNat_lt
  have e4 : ∀ q, ((w.alloc (.cells #[] 147)).drewN q).cell? ⟨g, o + 4, none⟩ = some (.int .u8 b4.toNat) := fun q => (World.cell?_alloc_lt _ _ _ (World.block_lt_of_cell? _ _ c4)).trans c4
  have d4 : (w.alloc (.cells #[] 147)).cell? ⟨g, o + 4, none⟩ = some (.int .u8 b4.toNat) := e4 0
  have h4 : b4.toNat < 256 := b4.toNat_lt
  have e5 : ∀ q, ((w.alloc (.cells #[] 147)).drewN q).cell? ⟨g, o + 5, none⟩ = some (.int .u8 b5.toNat) := fun q => (World.cell?_alloc_lt _ _ _ (World.block_lt_of_cell? _ _ c5)).trans c5
  have d5 : (w.alloc (.cells #[] 147)).cell? ⟨g, o + 5, none⟩ = some (.int .u8 b5.toNat) := e5 0
  have h5 : b5.toNat < 256 := b5.toNat_lt
  have e6 : ∀ q, ((w.alloc (.cells #[] 147)).drewN q).cell? ⟨g, o + 6, none⟩ = some (.int .u8 b6.toNat) := fun q => (World.cell?_alloc_lt _ _ _ (World.block_lt_of_cell? _ _ c6)).trans c6
  have d6 : (w.alloc (.cells #[] 147)).cell? ⟨g, o + 6, none⟩ = some (.int .u8 b6.toNat) := e6 0
  have h6 : b6.toNat < 256 := b6.toNat_lt
  have e7 : ∀ q, ((w.alloc (.cells #[] 147)).drewN q).cell? ⟨g, o + 7, none⟩ = some (.int .u8 b7.toNat) := fun q => (World.cell?_alloc_lt _ _ _ (World.block_lt_of_cell? _ _ c7)).trans c7
  have d7 : (w.alloc (.cells #[] 147)).cell? ⟨g, o + 7, none⟩ = some (.int .u8 b7.toNat) := e7 0
  have h7 : b7.toNat < 256 := b7.toNat_lt
  have hv : ((Lib.beNat [b0, b1, b2, b3, b4, b5, b6, b7] : Nat) : Int) = (b7.toNat : Int) + (b6.toNat : Int) * 256 + (b5.toNat : Int) * 65536 + (b4.toNat : Int) * 16777216 + (b3.toNat : Int) * 4294967296 + (b2.toNat : Int) * 1099511627776 + (b1.toNat : Int) * 281474976710656 + (b0.toNat : Int) * 72057594037927936 := by
    simp only [Lib.beNat, Lib.beFrom]
    push_cast
    omega
  have q0 : 0 < n := by omega
  have q1 : (1 : Int) < (n : Int) := by omega
  have q2 : (2 : Int) < (n : Int) := by omega
  have q3 : (3 : Int) < (n : Int) := by omega
  have q4 : (4 : Int) < (n : Int) := by omega
  have q5 : (5 : Int) < (n : Int) := by omega
  have q6 : (6 : Int) < (n : Int) := by omega
  have q7 : (7 : Int) < (n : Int) := by omega
  go_enter Yba.func55, Yba.ntmps55
  go_wp2
  go_quiet (fail)
  go_wp2
  go_ret
  refine ⟨?_, ((Gr.refl w).alloc _).drewN _⟩
  simp (disch := omega) only [u64_or8, u64_or16, u64_or24, u64_or32, u64_or40, u64_or48, u64_or56]
  rw [hv]
  rfl
end Go.Proofs.Ybulkapqu
