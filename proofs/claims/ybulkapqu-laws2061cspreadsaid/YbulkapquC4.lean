import Derived.Test.YbulkapquC3
import Derived.Shelf.Spec.SlicesInsert
namespace Go.Proofs.Ybulkapqu
open Go.RowKit Go.Sort

theorem sz5 : (Yba.prog.info? 5).map (·.size) = some 1 := by kernel_rfl
theorem copy_none (W : World) (ty : TypeId) (b o dl dc : Nat) (sa : Addr) (sl sc : Nat) (h : Nat.min sl dl = 0) : (Builtin.copy_ #[22, 22] ty #[.slice (some ⟨b, o, none⟩) dl dc, .slice (some sa) sl sc]).run Yba.prog W = .ok (goInt (0 : Nat)) W :=
  run_copy_cells W _ _ ty 5 b o dl dc sa sl sc [] Yba.underlying22 sz5 h.symm (fun j v hj => by simp at hj) (fun j hj => by simp at hj) (fun j hj => by simp at hj) (fun v hv => by simp at hv)
theorem RSt.copy {w : World} {l : List UInt8} {W : World} (h : RSt w l zeroA W) (hl : l.length = 20) : RSt w l (idV l).toArray (W.setCells (w.heap.size + 1 + 1) 0 (idV l)) :=
  ⟨Gr.setCells _ (by omega) _ _ _ h.gr, h.hA.of_heap (heap_setCells_other _ _ (by omega) _ _ _), h.hR.of_heap (heap_setCells_other _ _ (by omega) _ _ _), h.hB.zput hl⟩
theorem RSt.copy_run {w : World} {l : List UInt8} {W : World} (h : RSt w l zeroA W) (hl : l.length = 20) (ty : TypeId) (dc sc : Nat) :
    (Builtin.copy_ #[22, 22] ty #[.slice (some ⟨w.heap.size + 1 + 1, 0, none⟩) 20 dc, .slice (some ⟨w.heap.size, 0, none⟩) 20 sc]).run Yba.prog W = .ok (goInt (idV l).length) (W.setCells (w.heap.size + 1 + 1) 0 (idV l)) :=
  run_copy_cells W _ _ ty 5 (w.heap.size + 1 + 1) 0 20 dc ⟨w.heap.size, 0, none⟩ 20 sc (idV l) Yba.underlying22 sz5 (by rw [length_idV, hl]; rfl)
    (fun j v hj => by rw [Addr.add_lit]; exact h.hA.all j v hj)
    (fun j hj => ((At.zthere h.hB hl) j (by simpa using hj)).1) (fun j hj => h.hB.frozen _) (fun v hv => by
      simp only [idV, List.mem_map] at hv
      obtain ⟨b, _, rfl⟩ := hv
      rfl)

set_option maxHeartbeats 4000000 in
set_option maxRecDepth 1000000 in
theorem rotate_zero (w : World) (l : List UInt8) (hl : l.length = 20) :
    Calls Yba.prog 38 #[.agg (idV l).toArray, .int .i64 0] w fun e w' => e = .returned (.agg (idV l).toArray) ∧ Gr w w' := by
  have mixed : Yba.prog.follows .mixedOrders = true := by kernel_rfl
  obtain ⟨S, hS⟩ : ∃ S, S = w.heap.size := ⟨_, rfl⟩
  obtain ⟨w1, hw1⟩ : ∃ w1, w1 = ((w.alloc (.cells (idV l).toArray 37)).alloc (.cells zeroA 37)).alloc (.cells zeroA 37) := ⟨_, rfl⟩
  have P1 : RSt w l zeroA w1 := hw1 ▸ rSt_start w l
  have hcp1 := fun ty dc sc => (P1.step ((Gr.refl w1).drew)).copy_run hl ty dc sc
  rw [← hS] at hcp1
  have hst := (((P1.step ((Gr.refl w1).drew)).copy hl).step ((Gr.refl _).drew))
  have hcp2 : ∀ W ty dc sc, (Builtin.copy_ #[22, 22] ty #[.slice (some ⟨S + 1 + 1, 0, none⟩) 0 dc, .slice (some ⟨S, 0, none⟩) 0 sc]).run Yba.prog W = .ok (goInt (0 : Nat)) W := fun W ty dc sc => copy_none W ty (S + 1 + 1) 0 0 dc ⟨S, 0, none⟩ 0 sc rfl
  rw [← hS] at hst
  obtain ⟨wf, hwf⟩ : ∃ wf, wf = (w1.drew.setCells (S + 1 + 1) 0 (idV l)).drew := ⟨_, rfl⟩
  rw [← hwf] at hst
  have L2 := hide (idload hst.hB.all hl)
  have T2 := hide (hst.hR.zthere hl)
  have F2 := hide (hst.hR.zput hl)
  have g3 : Hid (Gr w (wf.setCells (w.heap.size + 1) 0 (idV l).toArray.toList)) := Gr.setCells (w.heap.size + 1) (by omega) _ _ _ hst.gr
  have HO := hide (id_one l)
  have HN := hide (id_info hl)
  rw [← hS] at L2 T2 F2 g3
  have HW := hide hw1
  have HS := hide hS
  have HF := hide hwf
  have HZ := hide zeroA_eq
  have hw20 : IntKind.i64.wrap 20 = 20 := by decide
  have hw00 : IntKind.i64.wrap 0 = 0 := by decide
  clear hw1 hS P1 hst hwf
  go_enter Yba.func38, Yba.ntmps38
  go_upto_region 2 with fail
  rw [← HZ.out, ← HW.out, ← HS.out]
  go_wp2_with fail
  go_region_law_o (refine step_copy_runI rfl _ _ 22 22 rfl _ _ (by simp [Act.eval, Act.put]) (by simp [Act.eval, Act.put]) (hcp1 _ _ _) ?_)
  go_wp2_with fail
  go_region_law_o (refine step_copy_runI rfl _ _ 22 22 rfl _ _ (by simp [Act.eval, Act.put]) (by simp [Act.eval, Act.put]) (hcp2 _ _ _ _) ?_)
  rw [← HF.out]
  go_wp2_with (first | refine wpList_load_run rfl 37 _ rfl (S + 1 + 1) 0 rfl _ L2.out ?_ | refine wpList_store_mid rfl 37 _ _ rfl (S + 1) 0 _ rfl rfl T2.out HN.out HO.out ?_)
  refine bodyPost_ret_by (results_cell_row (P := Yba.prog) (p := 4) (ty := 37) rfl _ _ (S + 1) 37 (idV l).toArray _ _ rfl F2.out Yba.underlying37 rfl HN.out) rfl ?_
  exact ⟨rfl, g3.out⟩

set_option maxHeartbeats 4000000 in
set_option maxRecDepth 1000000 in
theorem rotate_all (w : World) (l : List UInt8) (hl : l.length = 20) :
    Calls Yba.prog 38 #[.agg (idV l).toArray, .int .i64 160] w fun e w' => e = .returned (.agg (idV l).toArray) ∧ Gr w w' := by
  have mixed : Yba.prog.follows .mixedOrders = true := by kernel_rfl
  obtain ⟨S, hS⟩ : ∃ S, S = w.heap.size := ⟨_, rfl⟩
  obtain ⟨w1, hw1⟩ : ∃ w1, w1 = ((w.alloc (.cells (idV l).toArray 37)).alloc (.cells zeroA 37)).alloc (.cells zeroA 37) := ⟨_, rfl⟩
  have P1 : RSt w l zeroA w1 := hw1 ▸ rSt_start w l
  have hcp1 := fun ty dc sc => ((P1.step ((Gr.refl w1).drew)).step ((Gr.refl _).drew)).copy_run hl ty dc sc
  rw [← hS] at hcp1
  have hst := (((P1.step ((Gr.refl w1).drew)).step ((Gr.refl _).drew)).copy hl)
  have hcp2 : ∀ W ty dc sc, (Builtin.copy_ #[22, 22] ty #[.slice (some ⟨S + 1 + 1, 0, none⟩) 20 dc, .slice (some ⟨S, 0, none⟩) 0 sc]).run Yba.prog W = .ok (goInt (0 : Nat)) W := fun W ty dc sc => copy_none W ty (S + 1 + 1) 0 20 dc ⟨S, 0, none⟩ 0 sc rfl
  rw [← hS] at hst
  obtain ⟨wf, hwf⟩ : ∃ wf, wf = w1.drew.drew.setCells (S + 1 + 1) 0 (idV l) := ⟨_, rfl⟩
  rw [← hwf] at hst
  have L2 := hide (idload hst.hB.all hl)
  have T2 := hide (hst.hR.zthere hl)
  have F2 := hide (hst.hR.zput hl)
  have g3 : Hid (Gr w (wf.setCells (w.heap.size + 1) 0 (idV l).toArray.toList)) := Gr.setCells (w.heap.size + 1) (by omega) _ _ _ hst.gr
  have HO := hide (id_one l)
  have HN := hide (id_info hl)
  rw [← hS] at L2 T2 F2 g3
  have HW := hide hw1
  have HS := hide hS
  have HF := hide hwf
  have HZ := hide zeroA_eq
  have hw20 : IntKind.i64.wrap 20 = 20 := by decide
  have hw00 : IntKind.i64.wrap 0 = 0 := by decide
  clear hw1 hS P1 hst hwf
  go_enter Yba.func38, Yba.ntmps38
  go_upto_region 2 with fail
  rw [← HZ.out, ← HW.out, ← HS.out]
  go_wp2_with fail
  go_region_law_o (refine step_copy_runI rfl _ _ 22 22 rfl _ _ (by simp [Act.eval, Act.put]) (by simp [Act.eval, Act.put]) (hcp2 _ _ _ _) ?_)
  go_wp2_with fail
  go_region_law_o (refine step_copy_runI rfl _ _ 22 22 rfl _ _ (by simp [Act.eval, Act.put]) (by simp [Act.eval, Act.put]) (hcp1 _ _ _) ?_)
  rw [← HF.out]
  go_wp2_with (first | refine wpList_load_run rfl 37 _ rfl (S + 1 + 1) 0 rfl _ L2.out ?_ | refine wpList_store_mid rfl 37 _ _ rfl (S + 1) 0 _ rfl rfl T2.out HN.out HO.out ?_)
  refine bodyPost_ret_by (results_cell_row (P := Yba.prog) (p := 4) (ty := 37) rfl _ _ (S + 1) 37 (idV l).toArray _ _ rfl F2.out Yba.underlying37 rfl HN.out) rfl ?_
  exact ⟨rfl, g3.out⟩

/-- rotate, at all that is asked of it. -/
def rotL (l : List UInt8) (n : Nat) : List UInt8 := if n % 8 = 0 then l else rotP l (n / 8) (n % 8) 20
theorem length_rotL (l : List UInt8) (hl : l.length = 20) (n : Nat) : (rotL l n).length = 20 := by
  unfold rotL
  split
  · exact hl
  · exact length_rotP _ _ _ _
theorem rotate_calls (w : World) (l : List UInt8) (hl : l.length = 20) (n : Nat) (hn : n ≤ 160) (h8 : n % 8 = 0 → n = 0 ∨ n = 160) :
    Calls Yba.prog 38 #[.agg (idV l).toArray, .int .i64 (n : Int)] w fun e w' => e = .returned (.agg (idV (rotL l n)).toArray) ∧ Gr w w' := by
  by_cases h : n % 8 = 0
  · rw [rotL, if_pos h]
    rcases h8 h with rfl | rfl
    · exact rotate_zero w l hl
    · exact rotate_all w l hl
  · rw [rotL, if_neg h]
    exact rotate_bits w l hl n hn h
end Go.Proofs.Ybulkapqu
