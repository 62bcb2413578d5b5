import Derived.Test.YbulkapquC7
namespace Go.Proofs.Ybulkapqu
open Go.RowKit Go.Sort

set_option maxHeartbeats 4000000 in
set_option maxRecDepth 1000000 in
theorem suspected_calls (c : Cfg) (ok : Ok c) (w : World) (h : Mem c w) (v : List UInt8) (hv : v.length = 20) :
    Calls Yba.prog 75 #[.pointer (some ⟨c.MB, 0, none⟩), .agg (idV v).toArray] w fun e w' => e = .returned (.bool (susB c v)) ∧ Gr w w' := by
  have mixed : Yba.prog.follows .mixedOrders = true := by kernel_rfl
  obtain ⟨S, hS⟩ : ∃ S, S = w.heap.size := ⟨_, rfl⟩
  obtain ⟨w1, hw1⟩ : ∃ w1, w1 = w.alloc (.cells (idV v).toArray 37) := ⟨_, rfl⟩
  have g1 : Gr w w1 := by rw [hw1]; exact (Gr.refl w).alloc _
  have m1 := h.gr g1
  have aV : At w1 S (idV v).toArray 37 := by rw [hw1, hS]; exact At.new w _ _
  have LV := hide (fun k os => idload ((aV.gr ((Gr.refl w1).grown k os)).all) hv)
  have hlk := fun k os => run_lookup (m1.gr ((Gr.refl w1).grown k os)).mSus 66 112 Yba.underlying66 Yba.zeroValue112 v hv
  have h1 := fun k os => (m1.gr ((Gr.refl w1).grown k os)).susp
  have hp := findE_ptr v c.sus ok.sus
  obtain ⟨u, hu⟩ : ∃ u, findE v c.sus = u := ⟨_, rfl⟩
  have hsb : susB c v = ptrB u := by rw [susB, hu]
  rw [hu] at hlk hp
  rw [hsb]
  have HK := hide hlk
  have HW := hide hw1
  have HS := hide hS
  have HGr := hide g1
  clear h m1 aV hw1 hS g1 hlk hu hsb
  rcases hp with rfl | ⟨a, rfl⟩
  · go_enter Yba.func75, Yba.ntmps75
    go_upto_region 1 with fail
    rw [← HW.out, ← HS.out]
    refine wp_region_quiet_grown (by assumption) (by kernel_rfl) ?_
    iterate 5 quiet_step (fail)
    refine wpQuiet_load_mid rfl 37 _ rfl _ _ rfl _ (fun w' hw' => by obtain ⟨p, rfl⟩ := hw'; exact LV.out _ _) ?_
    simp only [Act.put, List.setIfInBounds_toArray, List.set_cons_zero, List.set_cons_succ]
    go_big_quiet_want
    refine quiet_lookup_run 66 _ _ rfl _ _ rfl rfl _ (fun w' hw' => by obtain ⟨p, rfl⟩ := hw'; exact HK.out _ _) ?_
    simp only [Act.put, List.setIfInBounds_toArray, List.set_cons_zero, List.set_cons_succ]
    go_big_quiet_on
    iterate 2 quiet_step (fail)
    refine wpQuiet_nil ?_
    intro _ hw'
    obtain ⟨⟨nq, osq⟩, hw''⟩ := hw'
    subst hw''
    have HG2 := hide (HGr.out.grown nq osq)
    clear LV HK h1
    go_wp2
    go_ret
    exact ⟨rfl, HG2.out⟩
  · go_enter Yba.func75, Yba.ntmps75
    go_upto_region 1 with fail
    rw [← HW.out, ← HS.out]
    refine wp_region_quiet_grown (by assumption) (by kernel_rfl) ?_
    iterate 5 quiet_step (fail)
    refine wpQuiet_load_mid rfl 37 _ rfl _ _ rfl _ (fun w' hw' => by obtain ⟨p, rfl⟩ := hw'; exact LV.out _ _) ?_
    simp only [Act.put, List.setIfInBounds_toArray, List.set_cons_zero, List.set_cons_succ]
    go_big_quiet_want
    refine quiet_lookup_run 66 _ _ rfl _ _ rfl rfl _ (fun w' hw' => by obtain ⟨p, rfl⟩ := hw'; exact HK.out _ _) ?_
    simp only [Act.put, List.setIfInBounds_toArray, List.set_cons_zero, List.set_cons_succ]
    go_big_quiet_on
    iterate 2 quiet_step (fail)
    refine wpQuiet_nil ?_
    intro _ hw'
    obtain ⟨⟨nq, osq⟩, hw''⟩ := hw'
    subst hw''
    have HG2 := hide (HGr.out.grown nq osq)
    clear LV HK h1
    go_wp2
    go_ret
    exact ⟨rfl, HG2.out⟩

set_option maxHeartbeats 4000000 in
set_option maxRecDepth 1000000 in
theorem silent_calls (c : Cfg) (w : World) (h : Mem c w) (v : List UInt8) (hv : v.length = 20) :
    Calls Yba.prog 76 #[.pointer (some ⟨c.MB, 0, none⟩), .agg (idV v).toArray] w fun e w' => e = .returned (.bool false) ∧ Gr w w' := by
  have mixed : Yba.prog.follows .mixedOrders = true := by kernel_rfl
  obtain ⟨S, hS⟩ : ∃ S, S = w.heap.size := ⟨_, rfl⟩
  obtain ⟨w1, hw1⟩ : ∃ w1, w1 = w.alloc (.cells (idV v).toArray 37) := ⟨_, rfl⟩
  have g1 : Gr w w1 := by rw [hw1]; exact (Gr.refl w).alloc _
  have m1 := h.gr g1
  have aV : At w1 S (idV v).toArray 37 := by rw [hw1, hS]; exact At.new w _ _
  have LV := hide (fun k os => idload ((aV.gr ((Gr.refl w1).grown k os)).all) hv)
  have HK := hide (fun k os => run_lookup (m1.gr ((Gr.refl w1).grown k os)).mWat 67 191 Yba.underlying67 Yba.zeroValue191 v hv)
  have h1 := fun k os => (m1.gr ((Gr.refl w1).grown k os)).watch
  have HW := hide hw1
  have HS := hide hS
  have HGr := hide g1
  clear h m1 aV hw1 hS g1
  go_enter Yba.func76, Yba.ntmps76
  go_upto_region 1 with fail
  rw [← HW.out, ← HS.out]
  refine wp_region_quiet_grown (by assumption) (by kernel_rfl) ?_
  iterate 5 quiet_step (fail)
  refine wpQuiet_load_mid rfl 37 _ rfl _ _ rfl _ (fun w' hw' => by obtain ⟨p, rfl⟩ := hw'; exact LV.out _ _) ?_
  simp only [Act.put, List.setIfInBounds_toArray, List.set_cons_zero, List.set_cons_succ]
  go_big_quiet_want
  refine quiet_lookup_run 67 _ _ rfl _ _ rfl rfl _ (fun w' hw' => by obtain ⟨p, rfl⟩ := hw'; exact HK.out _ _) ?_
  simp only [Act.put, List.setIfInBounds_toArray, List.set_cons_zero, List.set_cons_succ, findE]
  go_big_quiet_on
  quiet_step (fail)
  refine wpQuiet_nil ?_
  intro _ hw'
  obtain ⟨⟨nq, osq⟩, hw''⟩ := hw'
  subst hw''
  have HG2 := hide (HGr.out.grown nq osq)
  clear LV HK h1
  go_wp2
  go_ret
  exact ⟨rfl, HG2.out⟩
end Go.Proofs.Ybulkapqu
