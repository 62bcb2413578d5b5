import Derived.Test.YbulkapoqDoorW1
import Derived.Lib.LazyBuf
namespace Go.Proofs.YbulkapoqDoor
open Go.RowKit

/-- 'copy(dst, s)' from a string, in a plain region. -/
theorem wpList_copy_str {P : Program} {w : World} {ops : Array Oper} {rest : List Oper} {o : Oper} {a : Act} {Q : Exit → Act → World → Prop} (hgd : o.guard = none) (d s : Operand) (dT sT : TypeId)
    (ho : o.op = .call { callee := .builtin .copy, args := #[d, s], argTypes := #[dT, sT] }) (elem : TypeId) (hu : P.underlying dT = some (.slice elem)) (hz : ∀ w, (Go.sizeOf elem).run P w = .ok 1 w)
    (b off dLen dCap : Nat) (hd : a.eval d = .slice (some ⟨b, off, none⟩) dLen dCap) (t : ByteArray) (hs : a.eval s = .string t) (hle : t.size ≤ dLen)
    (hc : ∀ j, j < t.size → (w.cell? ⟨b, off + j, none⟩).isSome = true) (hf : ∀ j, j < t.size → w.frozen? ⟨b, off + j, none⟩ = false)
    (h : wpList P ops Q rest (a.put o.dst (goInt t.size)) (w.setCells b off (t.data.toList.map fun x => Value.int .u8 (x.toNat : Int)))) : wpList P ops Q (o :: rest) a w := by
  refine wpList_plain hgd fun K hK => ?_
  have hrun := run_copy_string (P := P) w dT sT o.type elem b off dLen dCap t hu hz hle hc hf
  unfold Oper.wp
  simp [execOp, ho, resolve, invoke, builtin, hd, hs, hrun, Result.andThen]
  exact hK _ _ h

theorem not_empty (s : ByteArray) (h : 0 < s.size) : s.toList.isEmpty = false := by
  rw [Lib.toList_data]
  cases hl : s.data.toList with
  | nil =>
    have h2 : s.data.toList.length = s.size := by rw [Array.length_toList]; rfl
    rw [hl] at h2
    simp at h2
    omega
  | cons _ _ => rfl
theorem size5 : ∀ w, (Go.sizeOf 5).run Ybad.prog w = .ok 1 w := fun _ => by kernel_rfl

set_option maxHeartbeats 400000 in
theorem tadd_empty (w : World) (T e : Nat) (hce : w.cell? ⟨T, 5, none⟩ = some (.int .u32 e)) :
    Calls Ybad.prog 8 #[.pointer (some ⟨T, 4, none⟩), .string ⟨#[]⟩] w fun e' w' => e' = .returned (.tuple #[.int .u32 e, .nilIface]) ∧ w' = w := by
  go_enter Ybad.func8, Ybad.ntmps8
  go_wp2
  go_ret2
  exact ⟨rfl, rfl⟩

set_option maxHeartbeats 1000000 in
set_option maxRecDepth 100000 in
theorem tadd_room (w : World) (T e np cap g pg : Nat) (s : ByteArray) (hs0 : 0 < s.size) (hs1 : s.size ≤ 1024) (he : e < 1073741824)
   (hin : e % 65536 + s.size ≤ 65536) (hin0 : 0 < e % 65536) (hnp : e / 65536 < np) (hnp1 : np ≤ 65536)
   (hct : w.cell? ⟨T, 4, none⟩ = some (.slice (some ⟨g, 0, none⟩) np cap))
   (hce : w.cell? ⟨T, 5, none⟩ = some (.int .u32 e)) (hfz : ∀ j, w.frozen? ⟨T, j, none⟩ = false)
   (hp : w.cell? ⟨g, e / 65536, none⟩ = some (.slice (some ⟨pg, 0, none⟩) 65536 65536)) (hT : T ≠ pg)
   (hpc : ∀ j, j < 65536 → (w.cell? ⟨pg, j, none⟩).isSome = true) (hpf : ∀ j, w.frozen? ⟨pg, j, none⟩ = false) :
    Calls Ybad.prog 8 #[.pointer (some ⟨T, 4, none⟩), .string s] w fun e' w' => e' = .returned (.tuple #[.int .u32 e, .nilIface]) ∧
      w' = (w.setCells pg (e % 65536) (s.data.toList.map fun x => Value.int .u8 (x.toNat : Int))).setCell ⟨T, 5, none⟩ (.int .u32 (e + s.size : Nat)) := by
  have hse : s.toList.isEmpty = false := not_empty s hs0
  have b0 : ((e : Int) % 65536 != 0) = true := by simp; omega
  have b2 : ¬ (65536 < (e : Int) % 65536 + (s.size : Int)) := by omega
  have hsz := size5
  have hc5 : (w.setCells pg (e % 65536) (s.data.toList.map fun x => Value.int .u8 (x.toNat : Int))).cell? ⟨T, 5, none⟩ = some (.int .u32 e) := by
    rw [World.cell?_setCells_out _ _ _ _ _ (fun h _ => absurd h hT)]; exact hce
  have hf5 : (w.setCells pg (e % 65536) (s.data.toList.map fun x => Value.int .u8 (x.toNat : Int))).frozen? ⟨T, 5, none⟩ = false := by
    rw [World.frozen?_setCells]; exact hfz 5
  go_enter Ybad.func8, Ybad.ntmps8
  go_wp2_with (first | (refine wpList_copy_str rfl _ _ 63 9 (by rfl) 5 Ybad.underlying63 hsz pg (e % 65536) (65536 - e % 65536) (65536 - e % 65536) (by rfl) s (by rfl) (by omega) (fun j hj => hpc _ (by omega)) (fun j hj => hpf _) ?_))
  go_ret2
  exact ⟨rfl, rfl⟩

theorem info5 : (Ybad.prog.info? 5).map (fun i => (i.zero, i.size, i.bytes)) = some (some (.int .u8 0), 1, 1) := by kernel_rfl
theorem info63 : (Ybad.prog.info? 63).map (fun i => (i.zero, i.size, i.bytes)) = some (some (.slice none 0 0), 1, 24) := by kernel_rfl

theorem cell1 (w : World) (o2 : Obj) (a : Addr) (h : a.block < w.heap.size) : ((w.alloc o2).drew).cell? a = w.cell? a := by
  rw [World.cell?_drew, World.cell?_alloc_lt _ _ _ h]
theorem frozen1 (w : World) (o2 : Obj) (a : Addr) (h : a.block < w.heap.size) : ((w.alloc o2).drew).frozen? a = w.frozen? a := by
  rw [World.frozen?_drew, World.frozen?_alloc_old _ _ _ (by omega)]

/-- What is known behind the append of a text page, in the world where the new header is stored. -/
theorem tgrow_facts (TGv : Array Value) (hTG : TGv.size = 65536) (W0 w1 : World) (B T N np cap1 gg : Nat) (v x : Value) (xs : List Value) (o2 : Obj)
    (hlt0 : T < W0.heap.size) (hN : N < W0.heap.size) (hNV : W0.heap[N]? = some (.cells TGv 5 (0, 0))) (hTb : ∃ C, W0.heap[T]? = some (.cells C 44 (0, 0)) ∧ 5 < C.size) (hxs : xs.length = np)
    (hce : W0.cell? ⟨T, 5, none⟩ = some x)
    (hgrow : ((W0.alloc o2).drew).grownBy w1 v.ownBlock)
    (hown1 : w1.ownsRow B 63 1 (.slice (some ⟨gg, 0, none⟩) (np + 1) cap1) (np + 1) (xs ++ [.slice (some ⟨N, 0, none⟩) 65536 65536]))
    (hat : v.ownBlock = some gg ∨ gg = W0.heap.size + 1) (hne : v.ownBlock ≠ some T) (hneN : v.ownBlock ≠ some N) :
    (w1.setCell ⟨T, 4, none⟩ (.slice (some ⟨gg, 0, none⟩) (np + 1) cap1)).cell? ⟨T, 4, none⟩ = some (.slice (some ⟨gg, 0, none⟩) (np + 1) cap1) ∧
    (w1.setCell ⟨T, 4, none⟩ (.slice (some ⟨gg, 0, none⟩) (np + 1) cap1)).cell? ⟨T, 5, none⟩ = some x ∧
    (∀ j, (w1.setCell ⟨T, 4, none⟩ (.slice (some ⟨gg, 0, none⟩) (np + 1) cap1)).frozen? ⟨T, j, none⟩ = false) ∧
    (w1.setCell ⟨T, 4, none⟩ (.slice (some ⟨gg, 0, none⟩) (np + 1) cap1)).cell? ⟨gg, np, none⟩ = some (.slice (some ⟨N, 0, none⟩) 65536 65536) ∧
    (∀ j, j < 65536 → ((w1.setCell ⟨T, 4, none⟩ (.slice (some ⟨gg, 0, none⟩) (np + 1) cap1)).cell? ⟨N, j, none⟩).isSome = true) ∧
    (∀ j, (w1.setCell ⟨T, 4, none⟩ (.slice (some ⟨gg, 0, none⟩) (np + 1) cap1)).frozen? ⟨N, j, none⟩ = false) ∧ N ≠ T ∧ N < w1.heap.size := by
  have hsz := hgrow.size
  simp at hsz
  obtain ⟨C, hC, hC1⟩ := hTb
  have hT1 : w1.heap[T]? = some (.cells C 44 (0, 0)) := by
    rw [hgrow.block T (by simp; omega) (Ne.symm hne)]
    exact (Below.heap_alloc _ _ _ (by omega)).trans hC
  have hN1 : w1.heap[N]? = some (.cells TGv 5 (0, 0)) := by
    rw [hgrow.block N (by simp; omega) (Ne.symm hneN)]
    exact (Below.heap_alloc _ _ _ (by omega)).trans hNV
  have hTgg : T ≠ gg := by
    rintro rfl
    rcases hat with h | h
    · exact hne h
    · omega
  have hTN : T ≠ N := by
    rintro rfl
    rw [hC] at hNV
    simp at hNV
  have hc0 : w1.cell? ⟨T, 4, none⟩ = some (C[4]'(by omega)) := by rw [cell_of_row w1 T 4 C 44 _ hT1]; simp
  refine ⟨World.cell?_setCell_same _ _ _ hc0, ?_, fun j => ?_, ?_, fun j hj => ?_, fun j => ?_, Ne.symm hTN, by omega⟩
  · rw [World.cell?_setCell_other _ _ _ _ (by simp), cell_of_row w1 T 5 C 44 _ hT1, ← cell_of_row W0 T 5 C 44 _ hC]; exact hce
  · rw [World.frozen?_setCell]; exact frozen_of_row w1 T j C 44 hT1
  · rw [World.cell?_setCell_other _ _ _ _ (fun e => hTgg (congrArg Addr.block e)), hown1.cellAt np (by omega), List.getElem?_append_right (by omega)]
    simp [hxs]
  · rw [World.cell?_setCell_other _ _ _ _ (fun e => hTN (congrArg Addr.block e)), cell_of_row w1 _ j TGv 5 _ hN1]
    simp [hTG, hj]
  · rw [World.frozen?_setCell]; exact frozen_of_row w1 _ j TGv 5 hN1

set_option maxHeartbeats 1000000 in
set_option maxRecDepth 100000 in
/-- The grow case: the string begins at the end of all pages. -/
theorem tadd_grow (TGv : Array Value) (hmk : ∀ w, (Instr.makeSlice 63 (.int .u64 65536) (.int .u64 65536)).run Ybad.prog w = .ok (.slice (some ⟨w.heap.size, 0, none⟩) 65536 65536) (w.alloc (.cells TGv 5)))
   (hTG : TGv.size = 65536) (w : World) (B T e np cap : Nat) (ao : Option Addr) (xs : List Value) (s : ByteArray) (hs0 : 0 < s.size) (hs1 : s.size ≤ 1024) (he : np < 16384)
   (he2 : e = np * 65536 ∨ (0 < e % 65536 ∧ 65536 < e % 65536 + s.size ∧ np = e / 65536 + 1))
   (hct : w.cell? ⟨T, 4, none⟩ = some (.slice ao np cap))
   (hce : w.cell? ⟨T, 5, none⟩ = some (.int .u32 e)) (hfz : ∀ j, w.frozen? ⟨T, j, none⟩ = false)
   (hown : w.ownsRow B 63 1 (.slice ao np cap) np xs) (hB : B ≤ w.heap.size) (hne : Value.ownBlock (.slice ao np cap) ≠ some T) (hTb : Hid (∃ C, w.heap[T]? = some (.cells C 44 (0, 0)) ∧ 5 < C.size)) (hxs : Hid (xs.length = np)) :
    Calls Ybad.prog 8 #[.pointer (some ⟨T, 4, none⟩), .string s] w fun e' w' => e' = .returned (.tuple #[.int .u32 ((np : Int) * 65536), .nilIface]) ∧
      ∃ W0 w1 gg cap1, Below w.heap.size w W0 ∧ W0.heap.size = w.heap.size + 1 ∧ W0.heap[w.heap.size]? = some (.cells TGv 5 (0, 0)) ∧ ((W0.alloc (.cells #[.slice (some ⟨w.heap.size, 0, none⟩) 65536 65536] 63)).drew).grownBy w1 (Value.ownBlock (.slice ao np cap)) ∧
        w1.ownsRow B 63 1 (.slice (some ⟨gg, 0, none⟩) (np + 1) cap1) (np + 1) (xs ++ [.slice (some ⟨w.heap.size, 0, none⟩) 65536 65536]) ∧ (Value.ownBlock (.slice ao np cap) = some gg ∨ gg = W0.heap.size + 1) ∧
        w' = ((w1.setCell ⟨T, 4, none⟩ (.slice (some ⟨gg, 0, none⟩) (np + 1) cap1)).setCells w.heap.size 0 (s.data.toList.map fun x => Value.int .u8 (x.toNat : Int))).setCell ⟨T, 5, none⟩ (.int .u32 ((np : Int) * 65536 + s.size)) := by
  have hse : s.toList.isEmpty = false := not_empty s hs0
  obtain ⟨i0, hi0, hz0, hz1, hz2⟩ := info_parts info63
  have hlt : T < w.heap.size := World.block_lt_of_cell? w _ hct
  have hn64 : np + 1 ≤ maxLen := by unfold maxLen; omega
  have hq2 : ((np : Int) * 65536 + s.size - np * 65536 + 65536 - 1) / 65536 = 1 := by omega
  have dd : decide (4294967295 < (np : Int) * 65536 + s.size) = false := by simp; omega
  have dd2 : decide ((np : Int) * 65536 < (np : Int) * 65536 + s.size) = true := by simp; omega
  obtain ⟨ee, hee, hcee⟩ : ∃ ee : Int, ee = (e : Int) ∧ w.cell? ⟨T, 5, none⟩ = some (.int .u32 ee) := ⟨e, rfl, hce⟩
  clear hce
  rcases he2 with he2 | ⟨hin, hin2, hnp⟩
  · have : ee = (np : Int) * 65536 := by omega
    subst this
    clear hee he2
    go_enter Ybad.func8, Ybad.ntmps8
    go_wp2_with fail
    have hc0 : (w.alloc (.cells TGv 5)).cell? ⟨T, 4, none⟩ = some (.slice ao np cap) := by rw [World.cell?_alloc_lt _ _ _ hlt]; exact hct
    have hce0 := (World.cell?_alloc_lt w (.cells TGv 5) _ hlt).trans hcee
    have hfz0 : ∀ j, (w.alloc (.cells TGv 5)).frozen? ⟨T, j, none⟩ = false := fun j => by rw [World.frozen?_alloc_old _ _ _ (by simp; omega)]; exact hfz j
    have hown0 : (w.alloc (.cells TGv 5)).ownsRow B 63 1 (.slice ao np cap) np xs := by exact hown.alloc _
    have hsz0 : Hid ((w.alloc (.cells TGv 5)).heap.size = w.heap.size + 1) := by unfold Hid; simp
    have hN0 : Hid ((w.alloc (.cells TGv 5)).heap[w.heap.size]? = some (.cells TGv 5 (0, 0))) := heap_alloc_new w _
    have hbl0 : Below w.heap.size w (w.alloc (.cells TGv 5)) := (Below.refl _ _).alloc (Nat.le_refl _) _
    generalize w.alloc (.cells TGv 5) = W0 at *
    have hlt0 : T < W0.heap.size := World.block_lt_of_cell? W0 _ hc0
    have hB0 : B ≤ W0.heap.size := by have := hsz0.out; omega
    refine wp_loop_rounds 2 ?_
    rw [rounds_succ]
    go_wp2_with fail
    have hw0 : IntKind.u64.wrap 0 = 0 := by decide
    go_region_law (
      refine step_append_lies _ (by rfl) _ _ _ (by rfl) B 63 i0 _ 1 24 Ybad.underlying32 hi0 hz0 hz1 hz2 rfl (by omega) (.slice ao np cap) np xs (by rfl) (by exact hown0.alloc _)
        ⟨W0.heap.size, 0, none⟩ 1 1 [.slice (some ⟨w.heap.size, 0, none⟩) 65536 65536] (by rfl) (by rfl) (World.news_of_block (cs := #[.slice (some ⟨w.heap.size, 0, none⟩) 65536 65536]) (t := 63) (fr := (0, 0)) (by exact heap_alloc_new W0 _)) (by simp [Value.oneCell'])
        (by omega) hn64 (by omega) (by simp; omega) (W0.heap.size + 1) (by simp) ?_
      intro gg cap1 w1 hown1 hgrow hat hltg
      have hc1 : w1.cell? ⟨T, 4, none⟩ = some (.slice ao np cap) := (hgrow.cell_far _ (by simp; omega) (Ne.symm hne)).trans ((cell1 W0 _ _ hlt0).trans hc0)
      have hfz1 : ∀ j, w1.frozen? ⟨T, j, none⟩ = false := fun j => (hgrow.frozen_far _ (by simp; omega) (Ne.symm hne)).trans ((frozen1 W0 _ ⟨T, j, none⟩ hlt0).trans (hfz0 j)))
    all_goals
      obtain ⟨W2, hW2⟩ : ∃ W2, W2 = w1.setCell ⟨T, 4, none⟩ (.slice (some ⟨gg, 0, none⟩) (np + 1) cap1) := ⟨_, rfl⟩
      rw [← hW2]
      obtain ⟨f1, f2, f3, f4, f5, f6, f8, f9⟩ := tgrow_facts TGv hTG W0 w1 B T w.heap.size np cap1 gg _ _ xs _ hlt0 (by have := hsz0.out; omega) hN0.out (by obtain ⟨C, hC, hC1⟩ := hTb.out; exact ⟨C, (hbl0.block T hlt).trans hC, hC1⟩) hxs.out hce0 hgrow hown1 hat hne
        (fun e => by have := hown.lt _ e; omega)
      rw [← hW2] at f1 f2 f3 f4 f5 f6
      have HW2 : Hid (W2 = w1.setCell ⟨T, 4, none⟩ (.slice (some ⟨gg, 0, none⟩) (np + 1) cap1)) := hW2
      have Hown1 := hide hown1
      have Hgrow := hide hgrow
      clear hW2 hown1 hgrow hc1 hfz1
      have hc5 := (World.cell?_setCells_out w.heap.size (s.data.toList.map fun x => Value.int .u8 (x.toNat : Int)) 0 W2 ⟨T, 5, none⟩ (fun h _ => absurd h (Ne.symm f8))).trans f2
      have hf5 : (W2.setCells w.heap.size 0 (s.data.toList.map fun x => Value.int .u8 (x.toNat : Int))).frozen? ⟨T, 5, none⟩ = false := by
        rw [World.frozen?_setCells]; exact f3 5
      go_wp2_with fail
      rw [rounds_succ]
      go_wp2_with (first | (refine wpList_copy_str rfl _ _ 63 9 (by rfl) 5 Ybad.underlying63 size5 w.heap.size 0 65536 65536 (by rfl) s (by rfl) (by omega) (fun j hj => f5 _ (by omega)) (fun j hj => f6 _) ?_))
      go_ret2
      refine ⟨rfl, W0, w1, gg, cap1, hbl0, hsz0.out, hN0.out, Hgrow.out, Hown1.out, hat, ?_⟩
      rw [← HW2.out]
  · have b0 : ((e : Int) % 65536 != 0) = true := by simp; omega
    have b2 : 65536 < (e : Int) % 65536 + (s.size : Int) := by omega
    have hq1 : (e : Int) + (65536 - (e : Int) % 65536) = (np : Int) * 65536 := by omega
    subst hee
    have he3 : e ≤ 2000000000 := by omega
    clear hnp
    go_enter Ybad.func8, Ybad.ntmps8
    go_wp2_with fail
    have hc0 : (w.alloc (.cells TGv 5)).cell? ⟨T, 4, none⟩ = some (.slice ao np cap) := by rw [World.cell?_alloc_lt _ _ _ hlt]; exact hct
    have hce0 := (World.cell?_alloc_lt w (.cells TGv 5) _ hlt).trans hcee
    have hfz0 : ∀ j, (w.alloc (.cells TGv 5)).frozen? ⟨T, j, none⟩ = false := fun j => by rw [World.frozen?_alloc_old _ _ _ (by simp; omega)]; exact hfz j
    have hown0 : (w.alloc (.cells TGv 5)).ownsRow B 63 1 (.slice ao np cap) np xs := by exact hown.alloc _
    have hsz0 : Hid ((w.alloc (.cells TGv 5)).heap.size = w.heap.size + 1) := by unfold Hid; simp
    have hN0 : Hid ((w.alloc (.cells TGv 5)).heap[w.heap.size]? = some (.cells TGv 5 (0, 0))) := heap_alloc_new w _
    have hbl0 : Below w.heap.size w (w.alloc (.cells TGv 5)) := (Below.refl _ _).alloc (Nat.le_refl _) _
    generalize w.alloc (.cells TGv 5) = W0 at *
    have hlt0 : T < W0.heap.size := World.block_lt_of_cell? W0 _ hc0
    have hB0 : B ≤ W0.heap.size := by have := hsz0.out; omega
    refine wp_loop_rounds 2 ?_
    rw [rounds_succ]
    go_wp2_with fail
    have hw0 : IntKind.u64.wrap 0 = 0 := by decide
    go_region_law (
      refine step_append_lies _ (by rfl) _ _ _ (by rfl) B 63 i0 _ 1 24 Ybad.underlying32 hi0 hz0 hz1 hz2 rfl (by omega) (.slice ao np cap) np xs (by rfl) (by exact hown0.alloc _)
        ⟨W0.heap.size, 0, none⟩ 1 1 [.slice (some ⟨w.heap.size, 0, none⟩) 65536 65536] (by rfl) (by rfl) (World.news_of_block (cs := #[.slice (some ⟨w.heap.size, 0, none⟩) 65536 65536]) (t := 63) (fr := (0, 0)) (by exact heap_alloc_new W0 _)) (by simp [Value.oneCell'])
        (by omega) hn64 (by omega) (by simp; omega) (W0.heap.size + 1) (by simp) ?_
      intro gg cap1 w1 hown1 hgrow hat hltg
      have hc1 : w1.cell? ⟨T, 4, none⟩ = some (.slice ao np cap) := (hgrow.cell_far _ (by simp; omega) (Ne.symm hne)).trans ((cell1 W0 _ _ hlt0).trans hc0)
      have hfz1 : ∀ j, w1.frozen? ⟨T, j, none⟩ = false := fun j => (hgrow.frozen_far _ (by simp; omega) (Ne.symm hne)).trans ((frozen1 W0 _ ⟨T, j, none⟩ hlt0).trans (hfz0 j)))
    all_goals
      obtain ⟨W2, hW2⟩ : ∃ W2, W2 = w1.setCell ⟨T, 4, none⟩ (.slice (some ⟨gg, 0, none⟩) (np + 1) cap1) := ⟨_, rfl⟩
      rw [← hW2]
      obtain ⟨f1, f2, f3, f4, f5, f6, f8, f9⟩ := tgrow_facts TGv hTG W0 w1 B T w.heap.size np cap1 gg _ _ xs _ hlt0 (by have := hsz0.out; omega) hN0.out (by obtain ⟨C, hC, hC1⟩ := hTb.out; exact ⟨C, (hbl0.block T hlt).trans hC, hC1⟩) hxs.out hce0 hgrow hown1 hat hne
        (fun e => by have := hown.lt _ e; omega)
      rw [← hW2] at f1 f2 f3 f4 f5 f6
      have HW2 : Hid (W2 = w1.setCell ⟨T, 4, none⟩ (.slice (some ⟨gg, 0, none⟩) (np + 1) cap1)) := hW2
      have Hown1 := hide hown1
      have Hgrow := hide hgrow
      clear hW2 hown1 hgrow hc1 hfz1
      have hc5 := (World.cell?_setCells_out w.heap.size (s.data.toList.map fun x => Value.int .u8 (x.toNat : Int)) 0 W2 ⟨T, 5, none⟩ (fun h _ => absurd h (Ne.symm f8))).trans f2
      have hf5 : (W2.setCells w.heap.size 0 (s.data.toList.map fun x => Value.int .u8 (x.toNat : Int))).frozen? ⟨T, 5, none⟩ = false := by
        rw [World.frozen?_setCells]; exact f3 5
      go_wp2_with fail
      rw [rounds_succ]
      go_wp2_with (first | (refine wpList_copy_str rfl _ _ 63 9 (by rfl) 5 Ybad.underlying63 size5 w.heap.size 0 65536 65536 (by rfl) s (by rfl) (by omega) (fun j hj => f5 _ (by omega)) (fun j hj => f6 _) ?_))
      go_ret2
      refine ⟨rfl, W0, w1, gg, cap1, hbl0, hsz0.out, hN0.out, Hgrow.out, Hown1.out, hat, ?_⟩
      rw [← HW2.out]
end Go.Proofs.YbulkapoqDoor
