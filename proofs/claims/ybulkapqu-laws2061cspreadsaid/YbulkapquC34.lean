import Derived.Test.YbulkapquC33
namespace Go.Proofs.Ybulkapqu
open Go.RowKit Go.Sort

set_option maxHeartbeats 4000000 in
set_option maxRecDepth 1000000 in
/-- standIn where nobody is dead. -/
theorem standInNot_calls (MB D : Nat) (w0 : World) (did : List UInt8) (hdid : did.length = 20) (wat : Nat → Bool) (hD : w0.cell? ⟨MB, 28, none⟩ = some (.map (some D))) (hmap : MapAt w0 D []) :
    Calls Yba.prog 27 #[.pointer (some ⟨MB, 0, none⟩), .agg (idV did).toArray, .agg (twoV wat)] w0 fun e w' => e = .returned (.agg (twoV (fun _ => false))) ∧ Gr w0 w' := by
  have mixed : Yba.prog.follows .mixedOrders = true := by kernel_rfl
  obtain ⟨S, hS⟩ : ∃ S, S = w0.heap.size := ⟨_, rfl⟩
  obtain ⟨w1, hw1⟩ : ∃ w1, w1 = ((w0.alloc (.cells (idV did).toArray 37)).alloc (.cells (twoV wat) 49)).alloc (.cells #[.bool false, .bool false] 49) := ⟨_, rfl⟩
  have g1 : Gr w0 w1 := by rw [hw1]; exact (((Gr.refl w0).alloc _).alloc _).alloc _
  have aV : At w1 S (idV did).toArray 37 := by rw [hw1, hS]; exact ((At.new w0 _ _).alloc _).alloc _
  have a6 : At w1 (S + 1 + 1) (twoV (fun _ => false)) 49 := by
    have := At.new ((w0.alloc (.cells (idV did).toArray 37)).alloc (.cells (twoV wat) 49)) #[.bool false, .bool false] 49
    rw [World.size_alloc, World.size_alloc, ← hS] at this
    rw [hw1]; exact this
  have LV := hide (fun k os => idload ((aV.gr ((Gr.refl w1).grown k os)).all) hdid)
  have HK := hide (fun k os => run_lookup (hmap.gr (g1.grown k os)) 66 112 Yba.underlying66 Yba.zeroValue112 did hdid)
  have h1 := fun k os => cell_gr (g1.grown k os) hD
  have hf : findE did [] = .pointer none := by simp [findE]
  rw [hf] at HK
  have HW := hide hw1
  have HS := hide hS
  have HG := hide g1
  have HA6 := hide a6
  clear hw1 hS g1 aV a6 hf hD hmap
  go_enter Yba.func27, Yba.ntmps27
  go_upto_region 1 with fail
  rw [show (((w0.alloc (.cells (idV did).toArray 37)).alloc (.cells (twoV wat) 49)).alloc (.cells #[.bool false, .bool false] 49)) = w1 from HW.out.symm, ← HS.out]
  refine wp_region_quiet_grown (by assumption) (by kernel_rfl) ?_
  iterate 5 quiet_step (fail)
  refine wpQuiet_load_mid rfl 37 _ rfl _ _ rfl _ (fun w' hw' => by obtain ⟨p, rfl⟩ := hw'; exact LV.out _ _) ?_
  simp only [Act.put, List.setIfInBounds_toArray, List.set_cons_zero, List.set_cons_succ]
  go_big_quiet_want
  refine quiet_lookup_run 66 _ _ rfl _ _ rfl rfl _ (fun w' hw' => by obtain ⟨p, rfl⟩ := hw'; exact HK.out _ _) ?_
  simp only [Act.put, List.setIfInBounds_toArray, List.set_cons_zero, List.set_cons_succ]
  go_big_quiet_on
  quiet_step (fail)
  refine wpQuiet_nil ?_
  intro _ hw'
  obtain ⟨⟨nq, osq⟩, hw''⟩ := hw'
  subst hw''
  have HG2 := hide (HG.out.grown nq osq)
  have a6 := HA6.out.gr ((Gr.refl w1).grown nq osq)
  clear LV HK h1 HW HG HA6
  generalize grow (w1.drewN nq) osq = w2 at *
  have z0 := two_cell a6 0 (by omega)
  have z1 := two_cell a6 1 (by omega)
  have f0 := a6.frozen 0
  have f1 := a6.frozen 1
  have a8 : At ((w2.setCell ⟨S + 1 + 1, 0, none⟩ (.bool false)).setCell ⟨S + 1 + 1, 1, none⟩ (.bool false)) (S + 1 + 1) (twoV (fun _ => false)) 49 := by
    have := (a6.set 0 (.bool false)).set 1 (.bool false)
    simpa [twoV] using this
  have hle : w0.heap.size ≤ S + 1 + 1 := by rw [HS.out]; omega
  have HF8 : Hid (Gr w0 ((w2.setCell ⟨S + 1 + 1, 0, none⟩ (.bool false)).setCell ⟨S + 1 + 1, 1, none⟩ (.bool false))) := (HG2.out.setCell _ _ hle).setCell _ _ hle
  have HA8 := hide a8
  have HA6 := hide a6
  have HI49 : Hid ((Yba.prog.info? 49).map (·.size) = some (twoV (fun _ => false)).size) := by show (Yba.prog.info? 49).map (·.size) = some 2; kernel_rfl
  clear a6 a8 hle
  go_wp2
  first
  | refine bodyPost_ret_by (results_cell_row (P := Yba.prog) (p := 6) (ty := 49) rfl _ _ (S + 1 + 1) 49 (twoV (fun _ => false)) _ _ rfl HA8.out Yba.underlying49 rfl HI49.out) rfl ?_
    exact ⟨rfl, HF8.out⟩
  | refine bodyPost_ret_by (results_cell_row (P := Yba.prog) (p := 6) (ty := 49) rfl _ _ (S + 1 + 1) 49 (twoV (fun _ => false)) _ _ rfl HA6.out Yba.underlying49 rfl HI49.out) rfl ?_
    exact ⟨rfl, HG2.out⟩
end Go.Proofs.Ybulkapqu
