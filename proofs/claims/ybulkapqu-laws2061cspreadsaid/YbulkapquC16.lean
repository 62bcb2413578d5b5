import Derived.Test.YbulkapquC15
namespace Go.Proofs.Ybulkapqu
open Go.RowKit Go.Sort

set_option maxHeartbeats 4000000 in
set_option maxRecDepth 1000000 in
theorem digit_calls (w : World) (l : List UInt8) (hl : l.length = 20) (d : Nat) (hd : d < 40) : Calls Yba.prog 79 #[.agg (idV l).toArray, .int .i64 (d : Int)] w fun e w' => (∃ o : Int, e = .returned (.int .i64 o)) ∧ Gr w w' := by
  obtain ⟨S, hS⟩ : ∃ S, S = w.heap.size := ⟨_, rfl⟩
  obtain ⟨w1, hw1⟩ : ∃ w1, w1 = w.alloc (.cells (idV l).toArray 37) := ⟨_, rfl⟩
  have g1 : Gr w w1 := by rw [hw1]; exact (Gr.refl w).alloc _
  have a1 : At w1 S (idV l).toArray 37 := by rw [hw1, hS]; exact At.new w _ _
  obtain ⟨q, hq⟩ : ∃ q, q = d / 2 := ⟨_, rfl⟩
  have cb : w1.cell? ⟨S, q, none⟩ = some (.int .u8 (byteAt l q)) := byte_cell a1 q (by omega)
  have hr := byteAt_range l q
  generalize byteAt l q = bv at cb hr
  have h1 : (0:Int) ≤ (d : Int) / 2 := by omega
  have h2 : (d : Int) / 2 < 20 := by omega
  have h3 : ((d : Int) / 2).toNat = q := by omega
  have HW := hide hw1
  have HS := hide hS
  have HG := hide g1
  clear hw1 hS g1 a1 hq
  by_cases he : (d : Int) % 2 = 0
  · go_enter Yba.func79, Yba.ntmps79
    go_upto_region 1 with fail
    rw [← HW.out, ← HS.out]
    go_wp2
    go_ret
    exact ⟨⟨_, rfl⟩, HG.out⟩
  · have he1 : (d : Int) % 2 = 1 := by omega
    go_enter Yba.func79, Yba.ntmps79
    go_upto_region 1 with fail
    rw [← HW.out, ← HS.out]
    go_wp2
    go_ret
    exact ⟨⟨_, rfl⟩, HG.out⟩

structure DSt2 (w : World) (l : List UInt8) (W : World) : Prop where
  gr : Gr w W
  hA : At W w.heap.size (idV l).toArray 37
  hR : At W (w.heap.size + 1) zeroA 37
theorem dSt2_start (w : World) (l : List UInt8) : DSt2 w l ((w.alloc (.cells (idV l).toArray 37)).alloc (.cells zeroA 37)) := by
  refine ⟨((Gr.refl w).alloc _).alloc _, (At.new w _ _).alloc _, ?_⟩
  have := At.new (w.alloc (.cells (idV l).toArray 37)) zeroA 37
  rwa [World.size_alloc] at this
theorem idV_set (l : List UInt8) (q : Nat) (z : Int) (h0 : 0 ≤ z) (h1 : z ≤ 255) : (idV l).toArray.setIfInBounds q (.int .u8 z) = (idV (l.set q (UInt8.ofNat z.toNat))).toArray := by
  rw [List.setIfInBounds_toArray, idV, idV, List.map_set, byte_back z h0 h1]

set_option maxHeartbeats 4000000 in
set_option maxRecDepth 1000000 in
theorem withDigit_calls (w : World) (l : List UInt8) (hl : l.length = 20) (d c : Nat) (hd : d < 40) (hc : c < 16) : Calls Yba.prog 80 #[.agg (idV l).toArray, .int .i64 (d : Int), .int .i64 (c : Int)] w fun e w' => (∃ l', l'.length = 20 ∧ e = .returned (.agg (idV l').toArray)) ∧ Gr w w' := by
  obtain ⟨S, hS⟩ : ∃ S, S = w.heap.size := ⟨_, rfl⟩
  obtain ⟨w1, hw1⟩ : ∃ w1, w1 = (w.alloc (.cells (idV l).toArray 37)).alloc (.cells zeroA 37) := ⟨_, rfl⟩
  have P1 : DSt2 w l w1 := hw1 ▸ dSt2_start w l
  obtain ⟨q, hq⟩ : ∃ q, q = d / 2 := ⟨_, rfl⟩
  have cb : w1.cell? ⟨S, q, none⟩ = some (.int .u8 (byteAt l q)) := by rw [hS]; exact byte_cell P1.hA q (by omega)
  have fb : w1.frozen? ⟨S, q, none⟩ = false := by rw [hS]; exact P1.hA.frozen q
  have hr := byteAt_range l q
  generalize byteAt l q = bv at cb hr
  have h1 : (0:Int) ≤ (d : Int) / 2 := by omega
  have h2 : (d : Int) / 2 < 20 := by omega
  have h3 : ((d : Int) / 2).toNat = q := by omega
  have hput : ∀ z : Int, (Lit.int .u8 z).wf = true → ∃ l' : List UInt8, l'.length = 20 ∧ Gr w (w1.setCell ⟨S, q, none⟩ (.int .u8 z)) ∧ At (w1.setCell ⟨S, q, none⟩ (.int .u8 z)) S (idV l').toArray 37 ∧ At (w1.setCell ⟨S, q, none⟩ (.int .u8 z)) (S + 1) zeroA 37 := fun z hz => by
    have hz2 := u8_range hz
    refine ⟨l.set q (UInt8.ofNat z.toNat), by simpa using hl, P1.gr.setCell _ _ (by rw [hS]; exact Nat.le_refl _), ?_, ?_⟩
    · have := P1.hA.set q (.int .u8 z)
      rw [idV_set l q z hz2.1 hz2.2, ← hS] at this
      exact this
    · rw [hS]; exact P1.hR.setOther _ _ (by simp)
  have HPut := hide hput
  have HW := hide hw1
  have HS := hide hS
  have HZ := hide zeroA_eq
  clear hw1 hS P1 hq hput
  by_cases he : (d : Int) % 2 = 0
  · go_enter Yba.func80, Yba.ntmps80
    go_upto_region 1 with fail
    rw [← HZ.out, ← HW.out, ← HS.out]
    go_upto_region 4 with fail
    obtain ⟨l', hl', g2, a2, z2⟩ := HPut.out _ (wf_bits BinOp.or IntKind.u8 (bv % 16) ((c : Int) * 16))
    generalize w1.setCell ⟨S, q, none⟩ (.int .u8 (bits BinOp.or IntKind.u8 (bv % 16) ((c : Int) * 16))) = w2 at *
    have L2 := hide (idload a2.all hl')
    have T2 := hide (z2.zthere hl')
    have F2 := hide (z2.zput hl')
    have g3 : Hid (Gr w (w2.setCells (S + 1) 0 (idV l').toArray.toList)) := Gr.setCells (S + 1) (by rw [HS.out]; omega) _ _ _ g2
    have HO := hide (id_one l')
    have HN := hide (id_info hl')
    clear g2 a2 z2 HPut
    go_wp2_with (first | refine wpList_load_run rfl 37 _ rfl S 0 rfl _ L2.out ?_ | refine wpList_store_mid rfl 37 _ _ rfl (S + 1) 0 _ rfl rfl T2.out HN.out HO.out ?_)
    refine bodyPost_ret_by (results_cell_row (P := Yba.prog) (p := 6) (ty := 37) rfl _ _ (S + 1) 37 (idV l').toArray _ _ rfl F2.out Yba.underlying37 rfl HN.out) rfl ?_
    exact ⟨⟨l', hl', rfl⟩, g3.out⟩
  · have he1 : (d : Int) % 2 = 1 := by omega
    go_enter Yba.func80, Yba.ntmps80
    go_upto_region 1 with fail
    rw [← HZ.out, ← HW.out, ← HS.out]
    go_upto_region 4 with fail
    obtain ⟨l', hl', g2, a2, z2⟩ := HPut.out _ (wf_bits BinOp.or IntKind.u8 (bits BinOp.and IntKind.u8 bv 240) ((c : Int)))
    generalize w1.setCell ⟨S, q, none⟩ (.int .u8 (bits BinOp.or IntKind.u8 (bits BinOp.and IntKind.u8 bv 240) ((c : Int)))) = w2 at *
    have L2 := hide (idload a2.all hl')
    have T2 := hide (z2.zthere hl')
    have F2 := hide (z2.zput hl')
    have g3 : Hid (Gr w (w2.setCells (S + 1) 0 (idV l').toArray.toList)) := Gr.setCells (S + 1) (by rw [HS.out]; omega) _ _ _ g2
    have HO := hide (id_one l')
    have HN := hide (id_info hl')
    clear g2 a2 z2 HPut
    go_wp2_with (first | refine wpList_load_run rfl 37 _ rfl S 0 rfl _ L2.out ?_ | refine wpList_store_mid rfl 37 _ _ rfl (S + 1) 0 _ rfl rfl T2.out HN.out HO.out ?_)
    refine bodyPost_ret_by (results_cell_row (P := Yba.prog) (p := 6) (ty := 37) rfl _ _ (S + 1) 37 (idV l').toArray _ _ rfl F2.out Yba.underlying37 rfl HN.out) rfl ?_
    exact ⟨⟨l', hl', rfl⟩, g3.out⟩

/-! ### passOver -/
def passB (c : Cfg) (also v : List UInt8) : Bool := decide (v = also) || susB c v
set_option maxHeartbeats 4000000 in
set_option maxRecDepth 1000000 in
theorem pass_calls (c : Cfg) (ok : Ok c) (w : World) (h : Mem c w) (also v : List UInt8) (ha : also.length = 20) (hv : v.length = 20) (P1 P2 P3 : Nat)
    (c1 : w.rangeAt P1 0 (idV also)) (c2 : w.cell? ⟨P2, 0, none⟩ = some (.pointer (some ⟨c.MB, 0, none⟩))) (c3 : w.cell? ⟨P3, 0, none⟩ = some (.int .i64 0)) :
    Calls Yba.prog 104 #[.agg (idV v).toArray, .pointer (some ⟨P1, 0, none⟩), .pointer (some ⟨P2, 0, none⟩), .pointer (some ⟨P3, 0, none⟩)] w fun e w' => e = .returned (.bool (passB c also v)) ∧ Gr w w' := by
  have mixed : Yba.prog.follows .mixedOrders = true := by kernel_rfl
  obtain ⟨S, hS⟩ : ∃ S, S = w.heap.size := ⟨_, rfl⟩
  obtain ⟨w1, hw1⟩ : ∃ w1, w1 = w.alloc (.cells (idV v).toArray 37) := ⟨_, rfl⟩
  have g1 : Gr w w1 := by rw [hw1]; exact (Gr.refl w).alloc _
  have m1 := h.gr g1
  have aV : At w1 S (idV v).toArray 37 := by rw [hw1, hS]; exact At.new w _ _
  have LV := hide (fun k os => idload ((aV.gr ((Gr.refl w1).grown k os)).all) hv)
  have LA := hide (fun k os => idload (rangeAt_gr (g1.trans ((Gr.refl w1).grown k os)) c1) ha)
  have d2 := fun k os => cell_gr (g1.trans ((Gr.refl w1).grown k os)) c2
  have d3 := fun k os => cell_gr (g1.trans ((Gr.refl w1).grown k os)) c3
  have HL := hide (fun k os => layout_calls c ok _ (m1.gr ((Gr.refl w1).grown k os)))
  have HU := hide (fun k os => unview_zero (grow (w1.drewN k) os) c.x c.f c.t v hv)
  have hs := fun k os => suspected_calls c ok _ (m1.gr ((Gr.refl w1).grown k os)) v hv
  have hpb : passB c also v = (decide (v = also) || susB c v) := rfl
  obtain ⟨sb, hsb⟩ : ∃ b, susB c v = b := ⟨_, rfl⟩
  rw [hsb] at hs hpb
  rw [hpb]
  have HSu := hide hs
  have HW := hide hw1
  have HS := hide hS
  have HG := hide g1
  generalize layV c.x c.f c.t = L at *
  clear h m1 aV hw1 hS g1 c1 c2 c3 hs hsb hpb
  by_cases e : v = also
  · have hd : decide (v = also) = true := decide_eq_true e
    have heq := hd
    clear e
    go_enter Yba.func104, Yba.ntmps104
    go_upto_region 1 with fail
    rw [← HW.out, ← HS.out]
    refine wp_region_quiet_grown (by assumption) (by kernel_rfl) ?_
    refine wpQuiet_load_mid rfl 37 _ rfl _ _ rfl _ (fun w' hw' => by obtain ⟨p, rfl⟩ := hw'; exact LV.out _ _) ?_
    refine wpQuiet_load_mid rfl 37 _ rfl _ _ rfl _ (fun w' hw' => by obtain ⟨p, rfl⟩ := hw'; exact LA.out _ _) ?_
    simp only [Act.put, List.setIfInBounds_toArray, List.set_cons_zero, List.set_cons_succ]
    go_big_quiet_want
    refine quiet_eql37 _ _ rfl v also rfl rfl hv ha ?_
    rw [hd]
    simp only [Act.put, List.setIfInBounds_toArray, List.set_cons_zero, List.set_cons_succ]
    go_big_quiet_on
    quiet_step (fail)
    iterate 7 go_big_quiet_skip
    repeat (quiet_step (fail))
    refine wpQuiet_nil ?_
    intro _ hw'
    obtain ⟨⟨nq, osq⟩, hw''⟩ := hw'
    subst hw''
    have HG2 := hide (HG.out.grown nq osq)
    clear LV LA d2 d3 HL HU HSu HG
    go_wp2
    go_ret
    exact ⟨by rw [hd]; rfl, HG2.out⟩
  · have hd : decide (v = also) = false := decide_eq_false e
    clear e
    go_enter Yba.func104, Yba.ntmps104
    go_upto_region 1 with fail
    rw [← HW.out, ← HS.out]
    refine wp_region_quiet_grown (by assumption) (by kernel_rfl) ?_
    refine wpQuiet_load_mid rfl 37 _ rfl _ _ rfl _ (fun w' hw' => by obtain ⟨p, rfl⟩ := hw'; exact LV.out _ _) ?_
    refine wpQuiet_load_mid rfl 37 _ rfl _ _ rfl _ (fun w' hw' => by obtain ⟨p, rfl⟩ := hw'; exact LA.out _ _) ?_
    simp only [Act.put, List.setIfInBounds_toArray, List.set_cons_zero, List.set_cons_succ]
    go_big_quiet_want
    refine quiet_eql37 _ _ rfl v also rfl rfl hv ha ?_
    rw [hd]
    simp only [Act.put, List.setIfInBounds_toArray, List.set_cons_zero, List.set_cons_succ]
    go_big_quiet_on
    iterate 3 quiet_step (fail)
    quiet_step ((go_at_call 42; refine Calls.grown_of' (HL.out _ _)))
    quiet_step (fail)
    go_big_quiet_want
    refine quiet_load_run 37 _ rfl _ _ rfl _ (fun w' hw' => by obtain ⟨p, rfl⟩ := hw'; exact LV.out _ _) ?_
    simp only [Act.put, List.setIfInBounds_toArray, List.set_cons_zero, List.set_cons_succ]
    go_big_quiet_on
    quiet_step ((go_at_call 74; refine Calls.grown_of' (HU.out _ _)))
    quiet_step ((go_at_call 75; refine Calls.grown_of' (HSu.out _ _)))
    repeat (quiet_step (fail))
    refine wpQuiet_nil ?_
    intro _ hw'
    obtain ⟨⟨nq, osq⟩, hw''⟩ := hw'
    subst hw''
    have HG2 := hide (HG.out.grown nq osq)
    clear LV LA d2 d3 HL HU HSu HG
    go_wp2
    go_ret
    exact ⟨by rw [hd]; rfl, HG2.out⟩

set_option maxHeartbeats 4000000 in
set_option maxRecDepth 1000000 in
theorem passOver_calls (w : World) (MB : Nat) (also : List UInt8) : Calls Yba.prog 82 #[.pointer (some ⟨MB, 0, none⟩), .int .i64 0, .agg (idV also).toArray] w fun e w' =>
    e = .returned (.func (.func 104) #[] #[.pointer (some ⟨w.heap.size + 1 + 1, 0, none⟩), .pointer (some ⟨w.heap.size, 0, none⟩), .pointer (some ⟨w.heap.size + 1, 0, none⟩)]) ∧ Gr w w' ∧ At w' (w.heap.size + 1 + 1) (idV also).toArray 37 ∧ w'.cell? ⟨w.heap.size, 0, none⟩ = some (.pointer (some ⟨MB, 0, none⟩)) ∧ w'.cell? ⟨w.heap.size + 1, 0, none⟩ = some (.int .i64 0) := by
  have n1 := At.new w #[.pointer (some ⟨MB, 0, none⟩)] 57
  have n2 := At.new (w.alloc (.cells #[.pointer (some ⟨MB, 0, none⟩)] 57)) #[.int .i64 0] 3
  have n3 := At.new ((w.alloc (.cells #[.pointer (some ⟨MB, 0, none⟩)] 57)).alloc (.cells #[.int .i64 0] 3)) (idV also).toArray 37
  simp only [World.size_alloc] at n2 n3
  have HF : Hid (Gr w (((w.alloc (.cells #[.pointer (some ⟨MB, 0, none⟩)] 57)).alloc (.cells #[.int .i64 0] 3)).alloc (.cells (idV also).toArray 37)) ∧ At (((w.alloc (.cells #[.pointer (some ⟨MB, 0, none⟩)] 57)).alloc (.cells #[.int .i64 0] 3)).alloc (.cells (idV also).toArray 37)) (w.heap.size + 1 + 1) (idV also).toArray 37 ∧ (((w.alloc (.cells #[.pointer (some ⟨MB, 0, none⟩)] 57)).alloc (.cells #[.int .i64 0] 3)).alloc (.cells (idV also).toArray 37)).cell? ⟨w.heap.size, 0, none⟩ = some (.pointer (some ⟨MB, 0, none⟩)) ∧ (((w.alloc (.cells #[.pointer (some ⟨MB, 0, none⟩)] 57)).alloc (.cells #[.int .i64 0] 3)).alloc (.cells (idV also).toArray 37)).cell? ⟨w.heap.size + 1, 0, none⟩ = some (.int .i64 0)) :=
    ⟨(((Gr.refl w).alloc _).alloc _).alloc _, n3, ((n1.alloc _).alloc _).cell 0, (n2.alloc _).cell 0⟩
  clear n1 n2 n3
  go_enter Yba.func82, Yba.ntmps82
  go_wp2
  go_ret
  exact ⟨rfl, HF.out⟩
end Go.Proofs.Ybulkapqu
