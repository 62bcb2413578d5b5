import Derived.Test.YbulkapoqDoorRows
import Derived.WalkKit
import Derived.ProofKit
import Derived.WalkLawsBesides
import Derived.Deep.QuietTactic
import Derived.BigQuiet
import Derived.Deep.RegionHeld3
import Derived.Deep.AppendLies
import Derived.Deep.MidRow
import Derived.Deep.RegionLaw
namespace Go.Proofs.YbulkapoqDoor
open Go.RowKit

theorem hide {p : Prop} (h : p) : Hid p := h
theorem mask4095 (i : Nat) (h : i < 2147483648) : bits .and .i32 (i : Int) 4095 = ((i % 4096 : Nat) : Int) := by
  have := bits_mask .i32 31 (by decide) wraps_i32 12 (by decide) (i : Int) (by omega) (by omega)
  simp at this
  rw [this]; omega

set_option maxHeartbeats 400000 in
theorem at_any (w : World) (bb off i np cap g pg : Nat) (h0 : i < 2147483648) (hi : i / 4096 < np)
   (hc : w.cell? ⟨bb, off, none⟩ = some (.slice (some ⟨g, 0, none⟩) np cap))
   (hp : w.cell? ⟨g, i / 4096, none⟩ = some (.slice (some ⟨pg, 0, none⟩) 4096 4096)) :
    Calls Ybad.prog 6 #[.pointer (some ⟨bb, off, none⟩), .int .i32 i] w fun e w' => e = .returned (.pointer (some ⟨pg, i % 4096 * 7, none⟩)) ∧ w' = w := by
  have hm := mask4095 i h0
  go_enter Ybad.func6, Ybad.ntmps6
  go_wp2
  go_ret
  exact ⟨rfl, rfl⟩

/-- A page of records: 4096 records of 7 cells. -/
def PG : Array Value := madeCells #[.int .u32 0, .int .u32 0, .int .i32 0, .int .i32 0, .int .i32 0, .int .u8 0, .int .u8 0] 28672
theorem size_PG : PG.size = 28672 := size_madeCells _ _
theorem info50 : (Ybad.prog.info? 50).map (fun i => (i.zero, i.size, i.bytes)) = some (some (.agg #[.int .u32 0, .int .u32 0, .int .i32 0, .int .i32 0, .int .i32 0, .int .u8 0, .int .u8 0]), 7, 24) := by kernel_rfl
theorem info61 : (Ybad.prog.info? 61).map (fun i => (i.zero, i.size, i.bytes)) = some (some (.slice none 0 0), 1, 24) := by kernel_rfl
theorem make_page (w : World) : (Instr.makeSlice 61 (.int .i64 4096) (.int .i64 4096)).run Ybad.prog w = .ok (.slice (some ⟨w.heap.size, 0, none⟩) 4096 4096) (w.alloc (.cells PG 50)) := by
  obtain ⟨i0, hi0, hz0, hz1, hz2⟩ := info_parts info50
  have h := run_make (P := Ybad.prog) w 61 50 i0 _ Ybad.underlying61 hi0 hz0 .i64 .i64 4096 4096 (by decide) (by decide) (by rw [hz2]; decide) (by decide)
  rw [hz1] at h
  exact h


set_option maxHeartbeats 1000000 in
theorem add_room (w : World) (T n np cap g pg : Nat) (a0 a1 a2 a3 a4 a5 a6 : Int) (cs : Array Value) (hn : n < 2147483647) (hi : n / 4096 < np)
   (hc : w.cell? ⟨T, 0, none⟩ = some (.slice (some ⟨g, 0, none⟩) np cap))
   (hcn : w.cell? ⟨T, 1, none⟩ = some (.int .i64 n))
   (hfz : w.frozen? ⟨T, 1, none⟩ = false) (hT : T ≠ pg)
   (hp : w.cell? ⟨g, n / 4096, none⟩ = some (.slice (some ⟨pg, 0, none⟩) 4096 4096))
   (hpg : w.heap[pg]? = some (.cells cs 50 (0, 0))) (hcs : cs.size = 28672) :
    Calls Ybad.prog 9 #[.pointer (some ⟨T, 0, none⟩), .agg #[.int .u32 a0, .int .u32 a1, .int .i32 a2, .int .i32 a3, .int .i32 a4, .int .u8 a5, .int .u8 a6]] w fun e w' => e = .returned (.tuple #[.int .i32 n, .nilIface]) ∧
      ∃ q, w' = (((w.alloc (.cells #[.int .u32 a0, .int .u32 a1, .int .i32 a2, .int .i32 a3, .int .i32 a4, .int .u8 a5, .int .u8 a6] 50)).drewN q).setCells pg (n % 4096 * 7) [.int .u32 a0, .int .u32 a1, .int .i32 a2, .int .i32 a3, .int .i32 a4, .int .u8 a5, .int .u8 a6]).setCell ⟨T, 1, none⟩ (.int .i64 (n + 1)) := by
  have hlt : T < w.heap.size := World.block_lt_of_cell? w _ hc
  have hltg : g < w.heap.size := World.block_lt_of_cell? w _ hp
  have hltp : pg < w.heap.size := by rcases Nat.lt_or_ge pg w.heap.size with h | h; exact h; simp [Array.getElem?_eq_none h] at hpg
  have hcell : ∀ j, j < 7 → ∃ u, w.cell? ⟨pg, n % 4096 * 7 + j, none⟩ = some u := fun j hj => ⟨cs[n % 4096 * 7 + j]'(by omega), by rw [cell_of_row w pg _ cs 50 _ hpg]; simp⟩
  have hfro : ∀ j, w.frozen? ⟨pg, j, none⟩ = false := fun j => frozen_of_row w pg j cs 50 hpg
  obtain ⟨u0, hu0⟩ := hcell 0 (by omega)
  obtain ⟨u1, hu1⟩ := hcell 1 (by omega)
  obtain ⟨u2, hu2⟩ := hcell 2 (by omega)
  obtain ⟨u3, hu3⟩ := hcell 3 (by omega)
  obtain ⟨u4, hu4⟩ := hcell 4 (by omega)
  obtain ⟨u5, hu5⟩ := hcell 5 (by omega)
  obtain ⟨u6, hu6⟩ := hcell 6 (by omega)
  rw [Nat.add_zero] at hu0
  have e1 : ((n : Int) == 2147483647) = false := by simp; omega
  have e2 : ((n : Int) / 4096 == (np : Int)) = false := by simp; omega
  have hpw : pg ≠ w.heap.size := by omega
  clear hpg hcell
  go_enter Ybad.func9, Ybad.ntmps9
  go_wp2
  go_quiet (fail)
  go_wp2
  go_region_held3 (fun w' => w'.cell? ⟨w.heap.size, 0, none⟩ = some (.int .u32 a0) ∧ w'.cell? ⟨w.heap.size, 1, none⟩ = some (.int .u32 a1) ∧ w'.cell? ⟨w.heap.size, 2, none⟩ = some (.int .i32 a2) ∧ w'.cell? ⟨w.heap.size, 3, none⟩ = some (.int .i32 a3) ∧ w'.cell? ⟨w.heap.size, 4, none⟩ = some (.int .i32 a4) ∧ w'.cell? ⟨w.heap.size, 5, none⟩ = some (.int .u8 a5) ∧ w'.cell? ⟨w.heap.size, 6, none⟩ = some (.int .u8 a6))
    (go_keep)
    (first | (go_at_call 6; refine (at_any _ T 0 n np cap g pg (by omega) hi ?_ ?_).mono ?_; (go_simp); (go_simp); rintro e w' ⟨rfl, rfl⟩))
  go_wp2
  go_ret2
  exact ⟨rfl, _, rfl⟩

theorem cell2 (w : World) (o2 o3 : Obj) (a : Addr) (h : a.block < w.heap.size) : (((w.alloc o2).alloc o3).drew).cell? a = w.cell? a := by
  rw [World.cell?_drew, World.cell?_alloc_lt _ _ _ (by simp; omega), World.cell?_alloc_lt _ _ _ h]
theorem frozen2 (w : World) (o2 o3 : Obj) (a : Addr) (h : a.block < w.heap.size) : (((w.alloc o2).alloc o3).drew).frozen? a = w.frozen? a := by
  rw [World.frozen?_drew, World.frozen?_alloc_old _ _ _ (by simp; omega), World.frozen?_alloc_old _ _ _ (by omega)]
theorem heap_new2 (w : World) (o1 o2 : Obj) : (((w.alloc o1).alloc o2).drew).heap[w.heap.size + 1]? = some o2 := by
  have := heap_alloc_new (w.alloc o1) o2
  rw [World.size_alloc] at this
  exact this
theorem heap_new3 (w : World) (o1 o2 o3 : Obj) : (((w.alloc o1).alloc o2).alloc o3).heap[w.heap.size + 2]? = some o3 := by
  have := heap_alloc_new ((w.alloc o1).alloc o2) o3
  simpa using this

theorem heap_new1 (w : World) (o1 o2 : Obj) : (((w.alloc o1).alloc o2).drew).heap[w.heap.size]? = some o1 := by
  have h := heap_alloc_new w o1
  have h2 := Below.heap_alloc (w.alloc o1) o2 w.heap.size (by simp)
  exact h2.trans h

/-- What is known behind the append, in the world where the new header is stored. -/
theorem grow_facts (PGv : Array Value) (hPG : PGv.size = 28672) (W0 w1 : World) (B T N n np cap1 gg : Nat) (v : Value) (xs : List Value) (V : List Value) (o2 : Obj)
    (hlt0 : T < W0.heap.size) (hN : N < W0.heap.size) (hNV : W0.heap[N]? = some (.cells V.toArray 50 (0, 0))) (hTb : ∃ C, W0.heap[T]? = some (.cells C 44 (0, 0)) ∧ 1 < C.size) (hxs : xs.length = np)
    (hcn : W0.cell? ⟨T, 1, none⟩ = some (.int .i64 n))
    (hown0 : W0.ownsRow B 61 1 v np xs)
    (hgrow : (((W0.alloc (.cells PGv 50)).alloc o2).drew).grownBy w1 v.ownBlock)
    (hown1 : w1.ownsRow B 61 1 (.slice (some ⟨gg, 0, none⟩) (np + 1) cap1) (np + 1) (xs ++ [.slice (some ⟨W0.heap.size, 0, none⟩) 4096 4096]))
    (hat : v.ownBlock = some gg ∨ gg = W0.heap.size + 2) (hne : v.ownBlock ≠ some T) (hneN : v.ownBlock ≠ some N) :
    (w1.setCell ⟨T, 0, none⟩ (.slice (some ⟨gg, 0, none⟩) (np + 1) cap1)).cell? ⟨T, 0, none⟩ = some (.slice (some ⟨gg, 0, none⟩) (np + 1) cap1) ∧
    (w1.setCell ⟨T, 0, none⟩ (.slice (some ⟨gg, 0, none⟩) (np + 1) cap1)).cell? ⟨T, 1, none⟩ = some (.int .i64 n) ∧
    (∀ j, (w1.setCell ⟨T, 0, none⟩ (.slice (some ⟨gg, 0, none⟩) (np + 1) cap1)).frozen? ⟨T, j, none⟩ = false) ∧
    (w1.setCell ⟨T, 0, none⟩ (.slice (some ⟨gg, 0, none⟩) (np + 1) cap1)).cell? ⟨gg, np, none⟩ = some (.slice (some ⟨W0.heap.size, 0, none⟩) 4096 4096) ∧
    (∀ j, j < 28672 → ∃ u, (w1.setCell ⟨T, 0, none⟩ (.slice (some ⟨gg, 0, none⟩) (np + 1) cap1)).cell? ⟨W0.heap.size, j, none⟩ = some u) ∧
    (∀ j, (w1.setCell ⟨T, 0, none⟩ (.slice (some ⟨gg, 0, none⟩) (np + 1) cap1)).frozen? ⟨W0.heap.size, j, none⟩ = false) ∧
    (∀ j, (w1.setCell ⟨T, 0, none⟩ (.slice (some ⟨gg, 0, none⟩) (np + 1) cap1)).cell? ⟨N, j, none⟩ = V[j]?) ∧ N < w1.heap.size ∧ W0.heap.size < w1.heap.size := by
  have hsz := hgrow.size
  simp at hsz
  have hownlt := hown0.lt
  obtain ⟨C, hC, hC1⟩ := hTb
  have hT1 : w1.heap[T]? = some (.cells C 44 (0, 0)) := by
    rw [hgrow.block T (by simp; omega) (Ne.symm hne)]
    exact (Below.heap_alloc _ _ _ (by simp; omega)).trans ((Below.heap_alloc _ _ _ hlt0).trans hC)
  have hN1 : w1.heap[N]? = some (.cells V.toArray 50 (0, 0)) := by
    rw [hgrow.block N (by simp; omega) (Ne.symm hneN)]
    exact (Below.heap_alloc _ _ _ (by simp; omega)).trans ((Below.heap_alloc _ _ _ hN).trans hNV)
  have hP1 : w1.heap[W0.heap.size]? = some (.cells PGv 50 (0, 0)) := by
    rw [hgrow.block W0.heap.size (by simp; omega) (fun e => by have := hownlt _ e.symm; omega)]
    exact heap_new1 W0 _ _
  have hTgg : T ≠ gg := by
    rintro rfl
    rcases hat with h | h
    · exact hne h
    · omega
  have hTN : T ≠ N := by
    rintro rfl
    rw [hC] at hNV
    simp at hNV
  have hc0 : w1.cell? ⟨T, 0, none⟩ = some (C[0]'(by omega)) := by rw [cell_of_row w1 T 0 C 44 _ hT1]; simp
  refine ⟨World.cell?_setCell_same _ _ _ hc0, ?_, fun j => ?_, ?_, fun j hj => ?_, fun j => ?_, fun j => ?_, by omega, by omega⟩
  · rw [World.cell?_setCell_other _ _ _ _ (by simp), cell_of_row w1 T 1 C 44 _ hT1, ← cell_of_row W0 T 1 C 44 _ hC]; exact hcn
  · rw [World.frozen?_setCell]; exact frozen_of_row w1 T j C 44 hT1
  · rw [World.cell?_setCell_other _ _ _ _ (fun e => hTgg (congrArg Addr.block e)), hown1.cellAt np (by omega), List.getElem?_append_right (by omega)]
    simp [hxs]
  · rw [World.cell?_setCell_other _ _ _ _ (fun e => absurd (congrArg Addr.block e) (Nat.ne_of_lt hlt0)), cell_of_row w1 _ j PGv 50 _ hP1]
    exact ⟨PGv[j]'(by omega), by simp⟩
  · rw [World.frozen?_setCell]; exact frozen_of_row w1 _ j PGv 50 hP1
  · rw [World.cell?_setCell_other _ _ _ _ (fun e => hTN (congrArg Addr.block e)), cell_of_row w1 _ j _ 50 _ hN1]; simp

set_option maxHeartbeats 1000000 in
set_option maxRecDepth 100000 in
theorem add_grow (PGv : Array Value) (hmk : ∀ w, (Instr.makeSlice 61 (.int .i64 4096) (.int .i64 4096)).run Ybad.prog w = .ok (.slice (some ⟨w.heap.size, 0, none⟩) 4096 4096) (w.alloc (.cells PGv 50)))
   (hPG : PGv.size = 28672) (w : World) (B T n np cap : Nat) (ao : Option Addr) (xs : List Value) (a0 a1 a2 a3 a4 a5 a6 : Int) (hn : n < 2147483647) (hi : Hid (n / 4096 = np)) (hxs : Hid (xs.length = np))
   (hc : w.cell? ⟨T, 0, none⟩ = some (.slice ao np cap))
   (hcn : w.cell? ⟨T, 1, none⟩ = some (.int .i64 n))
   (hfz : ∀ j, w.frozen? ⟨T, j, none⟩ = false)
   (hown : w.ownsRow B 61 1 (.slice ao np cap) np xs) (hB : B ≤ w.heap.size) (hne : Value.ownBlock (.slice ao np cap) ≠ some T) (hTb : ∃ C, w.heap[T]? = some (.cells C 44 (0, 0)) ∧ 1 < C.size) :
    Calls Ybad.prog 9 #[.pointer (some ⟨T, 0, none⟩), .agg #[.int .u32 a0, .int .u32 a1, .int .i32 a2, .int .i32 a3, .int .i32 a4, .int .u8 a5, .int .u8 a6]] w fun e w' => e = .returned (.tuple #[.int .i32 n, .nilIface]) ∧
      ∃ W0 w1 gg cap1, Below w.heap.size w W0 ∧ W0.heap.size = w.heap.size + 1 ∧ (((W0.alloc (.cells PGv 50)).alloc (.cells #[.slice (some ⟨W0.heap.size, 0, none⟩) 4096 4096] 61)).drew).grownBy w1 (Value.ownBlock (.slice ao np cap)) ∧
        w1.ownsRow B 61 1 (.slice (some ⟨gg, 0, none⟩) (np + 1) cap1) (np + 1) (xs ++ [.slice (some ⟨W0.heap.size, 0, none⟩) 4096 4096]) ∧ (Value.ownBlock (.slice ao np cap) = some gg ∨ gg = W0.heap.size + 2) ∧
        w' = (((w1.setCell ⟨T, 0, none⟩ (.slice (some ⟨gg, 0, none⟩) (np + 1) cap1)).setCells W0.heap.size (n % 4096 * 7) [.int .u32 a0, .int .u32 a1, .int .i32 a2, .int .i32 a3, .int .i32 a4, .int .u8 a5, .int .u8 a6]).setCell ⟨T, 1, none⟩ (.int .i64 (n + 1))).drew := by
  obtain ⟨i0, hi0, hz0, hz1, hz2⟩ := info_parts info61
  have hlt : T < w.heap.size := World.block_lt_of_cell? w _ hc
  have e1 : ((n : Int) == 2147483647) = false := by simp; omega
  have e2 : ((n : Int) / 4096 == (np : Int)) = true := by have := hi.out; simp; omega
  have hn64 : np + 1 ≤ maxLen := by have := hi.out; unfold maxLen; omega
  have hnpb : np ≤ 600000 := by have := hi.out; omega
  have HTb : Hid (∃ C, w.heap[T]? = some (.cells C 44 (0, 0)) ∧ 1 < C.size) := hTb
  clear hTb
  go_enter Ybad.func9, Ybad.ntmps9
  go_wp2
  go_quiet (fail)
  go_wp2
  have hc0 : ((w.alloc (.cells #[.int .u32 a0, .int .u32 a1, .int .i32 a2, .int .i32 a3, .int .i32 a4, .int .u8 a5, .int .u8 a6] 50)).drewN nq).cell? ⟨T, 0, none⟩ = some (.slice ao np cap) := by rw [World.cell?_drewN, World.cell?_alloc_lt _ _ _ hlt]; exact hc
  have hcn0 : ((w.alloc (.cells #[.int .u32 a0, .int .u32 a1, .int .i32 a2, .int .i32 a3, .int .i32 a4, .int .u8 a5, .int .u8 a6] 50)).drewN nq).cell? ⟨T, 1, none⟩ = some (.int .i64 n) := by rw [World.cell?_drewN, World.cell?_alloc_lt _ _ _ hlt]; exact hcn
  have hfz0 : ∀ j, ((w.alloc (.cells #[.int .u32 a0, .int .u32 a1, .int .i32 a2, .int .i32 a3, .int .i32 a4, .int .u8 a5, .int .u8 a6] 50)).drewN nq).frozen? ⟨T, j, none⟩ = false := fun j => by rw [World.frozen?_drewN, World.frozen?_alloc_old _ _ _ (by simp; omega)]; exact hfz j
  have hown0 : ((w.alloc (.cells #[.int .u32 a0, .int .u32 a1, .int .i32 a2, .int .i32 a3, .int .i32 a4, .int .u8 a5, .int .u8 a6] 50)).drewN nq).ownsRow B 61 1 (.slice ao np cap) np xs := by exact hown.alloc _
  have hsz0 : Hid (((w.alloc (.cells #[.int .u32 a0, .int .u32 a1, .int .i32 a2, .int .i32 a3, .int .i32 a4, .int .u8 a5, .int .u8 a6] 50)).drewN nq).heap.size = w.heap.size + 1) := by unfold Hid; simp
  have hN0 : ((w.alloc (.cells #[.int .u32 a0, .int .u32 a1, .int .i32 a2, .int .i32 a3, .int .i32 a4, .int .u8 a5, .int .u8 a6] 50)).drewN nq).heap[w.heap.size]? = some (.cells #[.int .u32 a0, .int .u32 a1, .int .i32 a2, .int .i32 a3, .int .i32 a4, .int .u8 a5, .int .u8 a6] 50 (0, 0)) := by exact heap_alloc_new w _
  have hbl0 : Below w.heap.size w ((w.alloc (.cells #[.int .u32 a0, .int .u32 a1, .int .i32 a2, .int .i32 a3, .int .i32 a4, .int .u8 a5, .int .u8 a6] 50)).drewN nq) := below_drewN ((Below.refl _ _).alloc (Nat.le_refl _) _) nq
  generalize ((w.alloc (.cells #[.int .u32 a0, .int .u32 a1, .int .i32 a2, .int .i32 a3, .int .i32 a4, .int .u8 a5, .int .u8 a6] 50)).drewN nq) = W0 at *
  have hlt0 : T < W0.heap.size := World.block_lt_of_cell? W0 _ hc0
  have hB0 : B ≤ W0.heap.size := by have := hsz0.out; omega
  have HN0 : Hid (W0.heap[w.heap.size]? = some (.cells #[.int .u32 a0, .int .u32 a1, .int .i32 a2, .int .i32 a3, .int .i32 a4, .int .u8 a5, .int .u8 a6] 50 (0, 0))) := hN0
  clear hN0
  go_region_law (
     refine step_append_lies _ (by rfl) _ _ _ (by rfl) B 61 i0 _ 1 24 Ybad.underlying26 hi0 hz0 hz1 hz2 rfl (by omega) (.slice ao np cap) np xs (by rfl) (by exact (hown0.alloc _).alloc _)
        ⟨W0.heap.size + 1, 0, none⟩ 1 1 [.slice (some ⟨W0.heap.size, 0, none⟩) 4096 4096] (by rfl) (by rfl) (World.news_of_block (cs := #[.slice (some ⟨W0.heap.size, 0, none⟩) 4096 4096]) (t := 61) (fr := (0, 0)) (by exact heap_new2 W0 _ _)) (by simp [Value.oneCell'])
        (by omega) hn64 (by omega) (by simp; omega) (W0.heap.size + 2) (by simp) ?_
     intro gg cap1 w1 hown1 hgrow hat hltg
     have hc1 : w1.cell? ⟨T, 0, none⟩ = some (.slice ao np cap) := (hgrow.cell_far _ (by simp; omega) (Ne.symm hne)).trans ((cell2 W0 _ _ _ hlt0).trans hc0)
     have hcn1 : w1.cell? ⟨T, 1, none⟩ = some (.int .i64 n) := (hgrow.cell_far _ (by simp; omega) (Ne.symm hne)).trans ((cell2 W0 _ _ _ hlt0).trans hcn0)
     have hfz1 : ∀ j, w1.frozen? ⟨T, j, none⟩ = false := fun j => (hgrow.frozen_far _ (by simp; omega) (Ne.symm hne)).trans ((frozen2 W0 _ _ ⟨T, j, none⟩ hlt0).trans (hfz0 j)))
  all_goals
    obtain ⟨W2, hW2⟩ : ∃ W2, W2 = w1.setCell ⟨T, 0, none⟩ (.slice (some ⟨gg, 0, none⟩) (np + 1) cap1) := ⟨_, rfl⟩
    rw [← hW2]
    obtain ⟨f1, f2, f3, f4, f5, f6, f7, f8, f9⟩ := grow_facts PGv hPG W0 w1 B T w.heap.size n np cap1 gg _ xs [.int .u32 a0, .int .u32 a1, .int .i32 a2, .int .i32 a3, .int .i32 a4, .int .u8 a5, .int .u8 a6] _ hlt0 (by have := hsz0.out; omega) HN0.out (by have := HTb.out; obtain ⟨C, hC, hC1⟩ := this; exact ⟨C, (hbl0.block T hlt).trans hC, hC1⟩) hxs.out hcn0 hown0 hgrow hown1 hat hne
      (fun e => by have := hown.lt _ e; omega)
    rw [← hW2] at f1 f2 f3 f4 f5 f6 f7
    have hsW2 : Hid (W2.heap.size = w1.heap.size) := by unfold Hid; rw [hW2]; simp
    have HW2 : Hid (W2 = w1.setCell ⟨T, 0, none⟩ (.slice (some ⟨gg, 0, none⟩) (np + 1) cap1)) := hW2
    have Hown1 := hide hown1
    have Hgrow := hide hgrow
    clear hW2 hown1 hgrow hc1 hcn1 hfz1
    have hfro : ∀ j, W2.frozen? ⟨W0.heap.size, j, none⟩ = false := f6
    obtain ⟨u0, hu0⟩ := f5 (n % 4096 * 7) (by omega)
    obtain ⟨u1, hu1⟩ := f5 (n % 4096 * 7 + 1) (by omega)
    obtain ⟨u2, hu2⟩ := f5 (n % 4096 * 7 + 2) (by omega)
    obtain ⟨u3, hu3⟩ := f5 (n % 4096 * 7 + 3) (by omega)
    obtain ⟨u4, hu4⟩ := f5 (n % 4096 * 7 + 4) (by omega)
    obtain ⟨u5, hu5⟩ := f5 (n % 4096 * 7 + 5) (by omega)
    obtain ⟨u6, hu6⟩ := f5 (n % 4096 * 7 + 6) (by omega)
    have g0 : W2.cell? ⟨w.heap.size, 0, none⟩ = some (.int .u32 a0) := f7 0
    have g1 : W2.cell? ⟨w.heap.size, 1, none⟩ = some (.int .u32 a1) := f7 1
    have g2 : W2.cell? ⟨w.heap.size, 2, none⟩ = some (.int .i32 a2) := f7 2
    have g3 : W2.cell? ⟨w.heap.size, 3, none⟩ = some (.int .i32 a3) := f7 3
    have g4 : W2.cell? ⟨w.heap.size, 4, none⟩ = some (.int .i32 a4) := f7 4
    have g5 : W2.cell? ⟨w.heap.size, 5, none⟩ = some (.int .u8 a5) := f7 5
    have g6 : W2.cell? ⟨w.heap.size, 6, none⟩ = some (.int .u8 a6) := f7 6
    have hpw : W0.heap.size ≠ w.heap.size := by have := hsz0.out; omega
    have hpT : T ≠ W0.heap.size := by omega
    clear f5 f7 f6
    go_wp2
    go_region_held3 (fun w' => w'.cell? ⟨w.heap.size, 0, none⟩ = some (.int .u32 a0) ∧ w'.cell? ⟨w.heap.size, 1, none⟩ = some (.int .u32 a1) ∧ w'.cell? ⟨w.heap.size, 2, none⟩ = some (.int .i32 a2) ∧ w'.cell? ⟨w.heap.size, 3, none⟩ = some (.int .i32 a3) ∧ w'.cell? ⟨w.heap.size, 4, none⟩ = some (.int .i32 a4) ∧ w'.cell? ⟨w.heap.size, 5, none⟩ = some (.int .u8 a5) ∧ w'.cell? ⟨w.heap.size, 6, none⟩ = some (.int .u8 a6))
      (go_keep)
      (first | (go_at_call 6; refine (at_any _ T 0 n (np + 1) cap1 gg W0.heap.size (by omega) (by have := hi.out; omega) ?_ ?_).mono ?_; (go_simp); (rw [hi.out]; go_simp); rintro e w' ⟨rfl, rfl⟩))
    go_wp2
    go_ret2
    refine ⟨rfl, W0, w1, gg, cap1, hbl0, hsz0.out, Hgrow.out, Hown1.out, hat, ?_⟩
    rw [← HW2.out]
    rfl
end Go.Proofs.YbulkapoqDoor
