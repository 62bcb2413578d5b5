import Derived.Test.YbulkapquC4
namespace Go.Proofs.Ybulkapqu
open Go.RowKit Go.Sort

structure VSt (w : World) (L : Array Value) (l : List UInt8) (W : World) : Prop where
  gr : Gr w W
  hL : At W w.heap.size L 51
  hA : At W (w.heap.size + 1) (idV l).toArray 37
  hR : At W (w.heap.size + 1 + 1) zeroA 37
theorem VSt.step {w : World} {L : Array Value} {l : List UInt8} {W W' : World} (h : VSt w L l W) (g : Gr W W') : VSt w L l W' := ⟨h.gr.trans g, h.hL.gr g, h.hA.gr g, h.hR.gr g⟩
theorem vSt_start (w : World) (L : Array Value) (l : List UInt8) : VSt w L l (((w.alloc (.cells L 51)).alloc (.cells (idV l).toArray 37)).alloc (.cells zeroA 37)) := by
  refine ⟨(((Gr.refl w).alloc _).alloc _).alloc _, ((At.new w _ _).alloc _).alloc _, ?_, ?_⟩
  · have := At.new (w.alloc (.cells L 51)) (idV l).toArray 37
    rw [World.size_alloc] at this
    exact this.alloc _
  · have := At.new ((w.alloc (.cells L 51)).alloc (.cells (idV l).toArray 37)) zeroA 37
    rw [World.size_alloc, World.size_alloc] at this
    exact this

set_option maxHeartbeats 4000000 in
set_option maxRecDepth 1000000 in
theorem view_one (w : World) (x t : Int) (f : Nat) (hf : f ≤ 2) (l : List UInt8) (hl : l.length = 20) (r : Int) (hr : ¬ r = 0) :
    Calls Yba.prog 22 #[.agg (layV x f t), .int .i64 r, .agg (idV l).toArray] w fun e w' => e = .returned (.agg (idV (rotL l f)).toArray) ∧ Gr w w' := by
  obtain ⟨S, hS⟩ : ∃ S, S = w.heap.size := ⟨_, rfl⟩
  obtain ⟨w1, hw1⟩ : ∃ w1, w1 = ((w.alloc (.cells (layV x f t) 51)).alloc (.cells (idV l).toArray 37)).alloc (.cells zeroA 37) := ⟨_, rfl⟩
  have V1 : VSt w (layV x f t) l w1 := hw1 ▸ vSt_start w (layV x f t) l
  have hrot := rotate_calls w1 l hl f (by omega) (by omega)
  obtain ⟨lr, hlr⟩ : ∃ lr, rotL l f = lr := ⟨_, rfl⟩
  have hlr20 : lr.length = 20 := by rw [← hlr]; exact length_rotL l hl _
  rw [hlr] at hrot ⊢
  have c1 : w1.cell? ⟨S, 1, none⟩ = some (.int .i64 (f : Int)) := by rw [hS]; exact V1.hL.cell 1
  have L1 := hide (idload V1.hA.all hl)
  rw [← hS] at L1
  have HR := hide hrot
  have HV := hide V1
  have HW := hide hw1
  have HS := hide hS
  have HZ := hide zeroA_eq
  have HO := hide (id_one lr)
  have HN := hide (id_info hlr20)
  have hrb : (r == 0) = false := by simpa using hr
  
  clear hw1 hS V1 hrot hlr
  generalize layV x f t = L at *
  go_enter Yba.func22, Yba.ntmps22
  go_upto_region 1 with fail
  rw [← HZ.out, ← HW.out, ← HS.out]
  go_wp2_with (first | refine wpList_load_run rfl 37 _ rfl (S + 1) 0 rfl _ L1.out ?_)
  refine HR.out.mono ?_
  rintro e w2 ⟨rfl, g2⟩
  have V2 := HV.out.step g2
  have T2 := hide (V2.hR.zthere hlr20)
  have F2 := hide (V2.hR.zput hlr20)
  have g3 : Hid (Gr w (w2.setCells (w.heap.size + 1 + 1) 0 (idV lr).toArray.toList)) := Gr.setCells (w.heap.size + 1 + 1) (by omega) _ _ _ V2.gr
  rw [← HS.out] at T2 F2 g3
  clear V2 g2 HV HR HW L1 c1
  go_wp2_with (first | refine wpList_store_mid rfl 37 _ _ rfl (S + 1 + 1) 0 _ rfl rfl T2.out HN.out HO.out ?_)
  refine bodyPost_ret_by (results_cell_row (P := Yba.prog) (p := 6) (ty := 37) rfl _ _ (S + 1 + 1) 37 (idV lr).toArray _ _ rfl F2.out Yba.underlying37 rfl HN.out) rfl ?_
  exact ⟨rfl, g3.out⟩

set_option maxHeartbeats 4000000 in
set_option maxRecDepth 1000000 in
theorem view_zero (w : World) (x f t : Int) (l : List UInt8) (hl : l.length = 20) :
    Calls Yba.prog 22 #[.agg (layV x f t), .int .i64 0, .agg (idV l).toArray] w fun e w' => e = .returned (.agg (idV l).toArray) ∧ Gr w w' := by
  obtain ⟨S, hS⟩ : ∃ S, S = w.heap.size := ⟨_, rfl⟩
  obtain ⟨w1, hw1⟩ : ∃ w1, w1 = ((w.alloc (.cells (layV x f t) 51)).alloc (.cells (idV l).toArray 37)).alloc (.cells zeroA 37) := ⟨_, rfl⟩
  have V1 : VSt w (layV x f t) l w1 := hw1 ▸ vSt_start w (layV x f t) l
  have L1 := hide (idload V1.hA.all hl)
  have T2 := hide (V1.hR.zthere hl)
  have F2 := hide (V1.hR.zput hl)
  have g3 : Hid (Gr w (w1.setCells (w.heap.size + 1 + 1) 0 (idV l).toArray.toList)) := Gr.setCells (w.heap.size + 1 + 1) (by omega) _ _ _ V1.gr
  rw [← hS] at L1 T2 F2 g3
  have HW := hide hw1
  have HS := hide hS
  have HZ := hide zeroA_eq
  have HO := hide (id_one l)
  have HN := hide (id_info hl)
  clear hw1 hS V1
  generalize layV x f t = L at *
  go_enter Yba.func22, Yba.ntmps22
  go_upto_region 1 with fail
  rw [← HZ.out, ← HW.out, ← HS.out]
  go_wp2_with (first | refine wpList_load_run rfl 37 _ rfl (S + 1) 0 rfl _ L1.out ?_ | refine wpList_store_mid rfl 37 _ _ rfl (S + 1 + 1) 0 _ rfl rfl T2.out HN.out HO.out ?_)
  refine bodyPost_ret_by (results_cell_row (P := Yba.prog) (p := 6) (ty := 37) rfl _ _ (S + 1 + 1) 37 (idV l).toArray _ _ rfl F2.out Yba.underlying37 rfl HN.out) rfl ?_
  exact ⟨rfl, g3.out⟩

set_option maxHeartbeats 4000000 in
set_option maxRecDepth 1000000 in
theorem unview_one (w : World) (x t : Int) (f : Nat) (hf : f ≤ 2) (l : List UInt8) (hl : l.length = 20) (r : Int) (hr : ¬ r = 0) :
    Calls Yba.prog 74 #[.agg (layV x f t), .int .i64 r, .agg (idV l).toArray] w fun e w' => e = .returned (.agg (idV (rotL l (160 - f))).toArray) ∧ Gr w w' := by
  obtain ⟨S, hS⟩ : ∃ S, S = w.heap.size := ⟨_, rfl⟩
  obtain ⟨w1, hw1⟩ : ∃ w1, w1 = ((w.alloc (.cells (layV x f t) 51)).alloc (.cells (idV l).toArray 37)).alloc (.cells zeroA 37) := ⟨_, rfl⟩
  have V1 : VSt w (layV x f t) l w1 := hw1 ▸ vSt_start w (layV x f t) l
  have hrot := rotate_calls w1 l hl (160 - f) (by omega) (by omega)
  obtain ⟨lr, hlr⟩ : ∃ lr, rotL l (160 - f) = lr := ⟨_, rfl⟩
  have hlr20 : lr.length = 20 := by rw [← hlr]; exact length_rotL l hl _
  rw [hlr] at hrot ⊢
  have c1 : w1.cell? ⟨S, 1, none⟩ = some (.int .i64 (f : Int)) := by rw [hS]; exact V1.hL.cell 1
  have L1 := hide (idload V1.hA.all hl)
  rw [← hS] at L1
  have HR := hide hrot
  have HV := hide V1
  have HW := hide hw1
  have HS := hide hS
  have HZ := hide zeroA_eq
  have HO := hide (id_one lr)
  have HN := hide (id_info hlr20)
  have hrb : (r == 0) = false := by simpa using hr
  have hsub : (160 : Int) - (f : Int) = ((160 - f : Nat) : Int) := by omega
  have hwr : IntKind.i64.wrap (((160 - f : Nat) : Int)) = ((160 - f : Nat) : Int) := by rw [IntKind.wrap_i64]; omega
  clear hw1 hS V1 hrot hlr
  generalize layV x f t = L at *
  go_enter Yba.func74, Yba.ntmps74
  go_upto_region 1 with fail
  rw [← HZ.out, ← HW.out, ← HS.out]
  go_wp2_with (first | refine wpList_load_run rfl 37 _ rfl (S + 1) 0 rfl _ L1.out ?_)
  refine HR.out.mono ?_
  rintro e w2 ⟨rfl, g2⟩
  have V2 := HV.out.step g2
  have T2 := hide (V2.hR.zthere hlr20)
  have F2 := hide (V2.hR.zput hlr20)
  have g3 : Hid (Gr w (w2.setCells (w.heap.size + 1 + 1) 0 (idV lr).toArray.toList)) := Gr.setCells (w.heap.size + 1 + 1) (by omega) _ _ _ V2.gr
  rw [← HS.out] at T2 F2 g3
  clear V2 g2 HV HR HW L1 c1
  go_wp2_with (first | refine wpList_store_mid rfl 37 _ _ rfl (S + 1 + 1) 0 _ rfl rfl T2.out HN.out HO.out ?_)
  refine bodyPost_ret_by (results_cell_row (P := Yba.prog) (p := 6) (ty := 37) rfl _ _ (S + 1 + 1) 37 (idV lr).toArray _ _ rfl F2.out Yba.underlying37 rfl HN.out) rfl ?_
  exact ⟨rfl, g3.out⟩

set_option maxHeartbeats 4000000 in
set_option maxRecDepth 1000000 in
theorem unview_zero (w : World) (x f t : Int) (l : List UInt8) (hl : l.length = 20) :
    Calls Yba.prog 74 #[.agg (layV x f t), .int .i64 0, .agg (idV l).toArray] w fun e w' => e = .returned (.agg (idV l).toArray) ∧ Gr w w' := by
  obtain ⟨S, hS⟩ : ∃ S, S = w.heap.size := ⟨_, rfl⟩
  obtain ⟨w1, hw1⟩ : ∃ w1, w1 = ((w.alloc (.cells (layV x f t) 51)).alloc (.cells (idV l).toArray 37)).alloc (.cells zeroA 37) := ⟨_, rfl⟩
  have V1 : VSt w (layV x f t) l w1 := hw1 ▸ vSt_start w (layV x f t) l
  have L1 := hide (idload V1.hA.all hl)
  have T2 := hide (V1.hR.zthere hl)
  have F2 := hide (V1.hR.zput hl)
  have g3 : Hid (Gr w (w1.setCells (w.heap.size + 1 + 1) 0 (idV l).toArray.toList)) := Gr.setCells (w.heap.size + 1 + 1) (by omega) _ _ _ V1.gr
  rw [← hS] at L1 T2 F2 g3
  have HW := hide hw1
  have HS := hide hS
  have HZ := hide zeroA_eq
  have HO := hide (id_one l)
  have HN := hide (id_info hl)
  clear hw1 hS V1
  generalize layV x f t = L at *
  go_enter Yba.func74, Yba.ntmps74
  go_upto_region 1 with fail
  rw [← HZ.out, ← HW.out, ← HS.out]
  go_wp2_with (first | refine wpList_load_run rfl 37 _ rfl (S + 1) 0 rfl _ L1.out ?_ | refine wpList_store_mid rfl 37 _ _ rfl (S + 1 + 1) 0 _ rfl rfl T2.out HN.out HO.out ?_)
  refine bodyPost_ret_by (results_cell_row (P := Yba.prog) (p := 6) (ty := 37) rfl _ _ (S + 1 + 1) 37 (idV l).toArray _ _ rfl F2.out Yba.underlying37 rfl HN.out) rfl ?_
  exact ⟨rfl, g3.out⟩

def viewL (f r : Nat) (l : List UInt8) : List UInt8 := if r = 0 then l else rotL l f
def unviewL (f r : Nat) (l : List UInt8) : List UInt8 := if r = 0 then l else rotL l (160 - f)
theorem length_viewL (f r : Nat) (l : List UInt8) (hl : l.length = 20) : (viewL f r l).length = 20 := by
  unfold viewL; split
  · exact hl
  · exact length_rotL l hl _
theorem length_unviewL (f r : Nat) (l : List UInt8) (hl : l.length = 20) : (unviewL f r l).length = 20 := by
  unfold unviewL; split
  · exact hl
  · exact length_rotL l hl _
theorem view_calls (w : World) (x t : Int) (f : Nat) (hf : f ≤ 2) (l : List UInt8) (hl : l.length = 20) (r : Nat) :
    Calls Yba.prog 22 #[.agg (layV x f t), .int .i64 (r : Int), .agg (idV l).toArray] w fun e w' => e = .returned (.agg (idV (viewL f r l)).toArray) ∧ Gr w w' := by
  by_cases h : r = 0
  · subst h
    exact view_zero w x f t l hl
  · rw [viewL, if_neg h]
    exact view_one w x t f hf l hl r (by omega)
theorem unview_calls (w : World) (x t : Int) (f : Nat) (hf : f ≤ 2) (l : List UInt8) (hl : l.length = 20) (r : Nat) :
    Calls Yba.prog 74 #[.agg (layV x f t), .int .i64 (r : Int), .agg (idV l).toArray] w fun e w' => e = .returned (.agg (idV (unviewL f r l)).toArray) ∧ Gr w w' := by
  by_cases h : r = 0
  · subst h
    exact unview_zero w x f t l hl
  · rw [unviewL, if_neg h]
    exact unview_one w x t f hf l hl r (by omega)
end Go.Proofs.Ybulkapqu
