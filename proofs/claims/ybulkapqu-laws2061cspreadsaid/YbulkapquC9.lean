import Derived.Test.YbulkapquC8
namespace Go.Proofs.Ybulkapqu
open Go.RowKit Go.Sort

theorem wpList_load_want {P : Program} {ops : Array Oper} {rest : List Oper} {op : Oper} {a : Act} {w : World} {Q : Exit → Act → World → Prop} (ty : TypeId) (x : Operand) (ho : op.op = .load ty x)
    (b o : Nat) (hx : a.eval x = .pointer (some ⟨b, o, none⟩)) (v : Value) (hr : (loadVar ty ⟨b, o, none⟩).run P w = .ok v w) (hw : Region.wanted op (yielded ops a.tmps) = true) (h : wpList P ops Q rest (a.put op.dst v) w) : wpList P ops Q (op :: rest) a w :=
  wpList_step fun _ hK => by
    rw [if_pos hw]
    unfold Oper.wp execOp
    simp only [ho, hx, Instr.loadAt, Instr.sureAddr, Sem.run_bind, Sem.run_pure, Result.andThen_ok, hr]
    exact hK _ _ h
theorem wpList_eql37 {ops : Array Oper} {rest : List Oper} {op : Oper} {a : Act} {w : World} {Q : Exit → Act → World → Prop} (hgd : op.guard = none) (x y : Operand) (ho : op.op = .binOp .eql 37 x y 37) (la lb : List UInt8) (hx : a.eval x = .agg (idV la).toArray) (hy : a.eval y = .agg (idV lb).toArray)
    (hla : la.length = 20) (hlb : lb.length = 20) (h : wpList Yba.prog ops Q rest (a.put op.dst (.bool (decide (la = lb)))) w) : wpList Yba.prog ops Q (op :: rest) a w :=
  wpList_plain hgd fun _ hK => by
    have hgq : Yba.prog.eqGuardType Yba.prog.depth 37 = false := by kernel_rfl
    have hq := run_eqIds la lb hla hlb
    have hrun : (execOp a.eval op).run Yba.prog w = .ok (.value (.bool (decide (la = lb)))) w := by
      unfold execOp
      simp only [ho, hx, hy]
      simp only [Sem.run_bind, run_eqGuard_agg w .eql 37 x y _ _ hgq, Result.andThen_ok, run_eql_struct, hq, Sem.run_pure]
    unfold Oper.wp
    rw [hrun]
    exact hK _ _ h

/-- Whom the member's look passes over. -/
def skipB (c : Cfg) (r : Nat) (id v : List UInt8) : Bool := decide (unviewL c.f r v = id) || !(inG c r v) || susB c (unviewL c.f r v)

set_option maxHeartbeats 4000000 in
set_option maxRecDepth 1000000 in
theorem skip_calls (c : Cfg) (ok : Ok c) (w : World) (h : Mem c w) (r : Nat) (hr : r < c.nr) (id v : List UInt8) (hid : id.length = 20) (hv : v.length = 20) (P1 P2 P3 : Nat)
    (c1 : w.cell? ⟨P1, 0, none⟩ = some (.pointer (some ⟨c.MB, 0, none⟩))) (c2 : w.cell? ⟨P2, 0, none⟩ = some (.int .i64 (r : Int))) (c3 : w.rangeAt P3 0 (idV id)) :
    Calls Yba.prog 73 #[.agg (idV v).toArray, .pointer (some ⟨P1, 0, none⟩), .pointer (some ⟨P2, 0, none⟩), .pointer (some ⟨P3, 0, none⟩)] w fun e w' => e = .returned (.bool (skipB c r id v)) ∧ Gr w w' := by
  have mixed : Yba.prog.follows .mixedOrders = true := by kernel_rfl
  obtain ⟨S, hS⟩ : ∃ S, S = w.heap.size := ⟨_, rfl⟩
  obtain ⟨w1, hw1⟩ : ∃ w1, w1 = w.alloc (.cells (idV v).toArray 37) := ⟨_, rfl⟩
  have g1 : Gr w w1 := by rw [hw1]; exact (Gr.refl w).alloc _
  have m1 := h.gr g1
  have aV : At w1 S (idV v).toArray 37 := by rw [hw1, hS]; exact At.new w _ _
  have d1 := cell_gr g1 c1
  have d2 := cell_gr g1 c2
  have d3 := rangeAt_gr g1 c3
  obtain ⟨m, hm⟩ : ∃ m, unviewL c.f r v = m := ⟨_, rfl⟩
  have hm20 : m.length = 20 := by rw [← hm]; exact length_unviewL _ _ _ hv
  have HL : Hid (∀ W, Gr w1 W → Calls Yba.prog 42 #[.pointer (some ⟨c.MB, 0, none⟩)] W fun e w' => e = .returned (.agg (layV c.x c.f c.t)) ∧ Gr W w') := fun W hW => layout_calls c ok W (m1.gr hW)
  have HU : Hid (∀ W, Gr w1 W → Calls Yba.prog 74 #[.agg (layV c.x c.f c.t), .int .i64 (r : Int), .agg (idV v).toArray] W fun e w' => e = .returned (.agg (idV m).toArray) ∧ Gr W w') := fun W _ => by rw [← hm]; exact unview_calls W c.x c.t c.f ok.f v hv r
  have HA : Hid (∀ W, Gr w1 W → Calls Yba.prog 41 #[.pointer (some ⟨c.MB, 0, none⟩), .int .i64 (r : Int), .agg (idV v).toArray] W fun e w' => e = .returned (.bool (inG c r v)) ∧ Gr W w') := fun W hW => inGroupAt_calls c ok W (m1.gr hW) r hr v hv
  have HB : Hid (∀ W, Gr w1 W → Calls Yba.prog 75 #[.pointer (some ⟨c.MB, 0, none⟩), .agg (idV m).toArray] W fun e w' => e = .returned (.bool (susB c m)) ∧ Gr W w') := fun W hW => suspected_calls c ok W (m1.gr hW) m hm20
  have HC : Hid (∀ W, Gr w1 W → Calls Yba.prog 76 #[.pointer (some ⟨c.MB, 0, none⟩), .agg (idV m).toArray] W fun e w' => e = .returned (.bool false) ∧ Gr W w') := fun W hW => silent_calls c W (m1.gr hW) m hm20
  have hsk : skipB c r id v = (decide (m = id) || !(inG c r v) || susB c m) := by rw [skipB, hm]
  obtain ⟨ig, hig⟩ : ∃ b, inG c r v = b := ⟨_, rfl⟩
  obtain ⟨sb, hsb⟩ : ∃ b, susB c m = b := ⟨_, rfl⟩
  rw [hig] at HA hsk
  rw [hsb] at HB hsk
  rw [hsk]
  have hu37 : Yba.prog.underlying 37 = some (.array 20 5) := by kernel_rfl
  have hiv : (Yba.prog.info? 37).map (·.size) = some (idV v).length := by rw [length_idV, hv]; kernel_rfl
  have HO := hide (id_one m)
  have HN := hide (id_info hm20)
  have HD : Hid (w1.cell? ⟨P1, 0, none⟩ = some (.pointer (some ⟨c.MB, 0, none⟩)) ∧ w1.cell? ⟨P2, 0, none⟩ = some (.int .i64 (r : Int)) ∧ w1.rangeAt P3 0 (idV id) ∧ At w1 S (idV v).toArray 37) := ⟨d1, d2, d3, aV⟩
  have HW := hide hw1
  have HS := hide hS
  have HGr := hide g1
  have HZ := hide zeroA_eq
  generalize layV c.x c.f c.t = L at *
  clear h m1 aV hw1 hS g1 d1 d2 d3 hm hsk hig hsb c1 c2 c3 ok
  go_enter Yba.func73, Yba.ntmps73
  go_upto_region 1 with fail
  rw [← HW.out, ← HS.out]
  go_cut [6] (fun s6 wx => ∃ X : Nat, s6 = .pointer (some ⟨X, 0, none⟩) ∧ Gr w1 wx ∧ At wx X (idV m).toArray 37)
  case first =>
    clear HA HB HC
    refine wp_region_held_drew (S := Gr w1) (by kernel_rfl) ((Gr.refl w1).drew) (fun hHeld => ?_)
    refine wpAnyH_take (i := 0) (v := ?_) rfl (by kernel_rfl) (by kernel_rfl) (by kernel_rfl) (fun _ _ _ h => h) (Or.inl ⟨by rfl, ?_⟩) (by assumption) ?_
    rotate_left
    · intro w hSw; have q1 := cell_gr hSw HD.out.1; go_simp; try with_reducible rfl
    refine wpAnyH_take (i := 2) (v := ?_) rfl (by kernel_rfl) (by kernel_rfl) (by kernel_rfl) (fun _ _ _ h => h) (Or.inl ⟨by rfl, ?_⟩) (by assumption) ?_
    rotate_left
    · intro w hSw; have q2 := cell_gr hSw HD.out.2.1; go_simp; try with_reducible rfl
    refine wpAnyH_take (i := 3) (v := _) rfl (by kernel_rfl) (by kernel_rfl) (by kernel_rfl) (fun _ _ _ h => h) (yieldsIf_load_mid (by rfl) 37 _ rfl S 0 rfl (idV v) _ (fun W h => (HD.out.2.2.2.gr h).all) hu37 rfl hiv) (by assumption) ?_
    generalize w1.drew = V0 at hHeld ⊢
    refine wpAnyH_ready (rs := [1, 5]) (by kernel_rfl) (by simp) ?_
    refine (AllReadyH.cons rfl (fun K hK => ?_) (AllReadyH.cons rfl (fun K hK => ?_) AllReadyH.nil))
    · go_simp
      go_at_call 42
      refine (HL.out _ hHeld).mono ?_
      rintro e V1 ⟨rfl, hg⟩
      refine hK.out _ _ (hHeld.trans hg) (fun hHeld2 => ?_)
      clear hHeld hK K hg
      have hHeld := hHeld2
      clear hHeld2
      refine wpAnyH_ready (rs := [4, 5]) (by kernel_rfl) (by simp) ?_
      refine (AllReadyH.cons rfl (fun K hK => ?_) (AllReadyH.cons rfl (fun K hK => ?_) AllReadyH.nil))
      · go_simp
        go_at_call 74
        refine (HU.out _ hHeld).mono ?_
        rintro e V2 ⟨rfl, hg⟩
        refine hK.out _ _ (hHeld.trans hg) (fun hHeld2 => ?_)
        clear hHeld hK K hg
        have hHeld := hHeld2
        clear hHeld2
        refine wpAnyH_ready (rs := [5]) (by kernel_rfl) (by simp) ?_
        refine AllReadyH.cons rfl (fun K hK => ?_) AllReadyH.nil
        go_simp
        refine hK.out _ _ (hHeld.alloc _) (fun hHeld2 => ?_)
        obtain ⟨X, hXe⟩ : ∃ q, q = V2.heap.size := ⟨_, rfl⟩
        have hXl : w1.heap.size ≤ X := by rw [hXe]; exact hHeld.size
        have hX : At (V2.alloc (.cells zeroA 37)) X zeroA 37 := by rw [hXe]; exact At.new _ _ _
        rw [← hXe, ← HZ.out]
        rw [← HZ.out] at hHeld2
        generalize V2.alloc (.cells zeroA 37) = V3 at *
        clear hHeld hK K hXe
        have hHeld := hHeld2
        clear hHeld2
        refine wpAnyH_ready (rs := [6]) (by kernel_rfl) (by simp) ?_
        refine AllReadyH.cons rfl (fun K hK => ?_) AllReadyH.nil
        rw [if_pos (by rfl)]
        refine wp_store_mid 37 _ _ rfl X 0 _ rfl rfl (hX.zthere hm20) HN.out HO.out ?_
        refine hK.out _ _ (Gr.setCells X hXl _ _ _ hHeld) (fun hHeld3 => ?_)
        have hX2 := hX.zput hm20
        generalize V3.setCells X 0 (idV m).toArray.toList = V4 at *
        refine wpAnyH_done (by kernel_rfl) ?_ _
        go_wp2_with fail
        go_meet
        exact ⟨X, rfl, hHeld3, hX2⟩
      · go_simp
        refine hK.out _ _ (hHeld.alloc _) (fun hHeld2 => ?_)
        obtain ⟨X, hXe⟩ : ∃ q, q = V1.heap.size := ⟨_, rfl⟩
        have hXl : w1.heap.size ≤ X := by rw [hXe]; exact hHeld.size
        have hX : At (V1.alloc (.cells zeroA 37)) X zeroA 37 := by rw [hXe]; exact At.new _ _ _
        rw [← hXe, ← HZ.out]
        rw [← HZ.out] at hHeld2
        generalize V1.alloc (.cells zeroA 37) = V5 at *
        clear hHeld hK K hXe
        have hHeld := hHeld2
        clear hHeld2
        refine wpAnyH_ready (rs := [4]) (by kernel_rfl) (by simp) ?_
        refine AllReadyH.cons rfl (fun K hK => ?_) AllReadyH.nil
        go_simp
        go_at_call 74
        refine (HU.out _ hHeld).mono ?_
        rintro e V6 ⟨rfl, hg⟩
        refine hK.out _ _ (hHeld.trans hg) (fun hHeld2 => ?_)
        replace hX := hX.gr hg
        clear hHeld hK K hg
        have hHeld := hHeld2
        clear hHeld2
        refine wpAnyH_ready (rs := [6]) (by kernel_rfl) (by simp) ?_
        refine AllReadyH.cons rfl (fun K hK => ?_) AllReadyH.nil
        rw [if_pos (by rfl)]
        refine wp_store_mid 37 _ _ rfl X 0 _ rfl rfl (hX.zthere hm20) HN.out HO.out ?_
        refine hK.out _ _ (Gr.setCells X hXl _ _ _ hHeld) (fun hHeld3 => ?_)
        have hX2 := hX.zput hm20
        generalize V6.setCells X 0 (idV m).toArray.toList = V7 at *
        refine wpAnyH_done (by kernel_rfl) ?_ _
        go_wp2_with fail
        go_meet
        exact ⟨X, rfl, hHeld3, hX2⟩
    · go_simp
      refine hK.out _ _ (hHeld.alloc _) (fun hHeld2 => ?_)
      obtain ⟨X, hXe⟩ : ∃ q, q = V0.heap.size := ⟨_, rfl⟩
      have hXl : w1.heap.size ≤ X := by rw [hXe]; exact hHeld.size
      have hX : At (V0.alloc (.cells zeroA 37)) X zeroA 37 := by rw [hXe]; exact At.new _ _ _
      rw [← hXe, ← HZ.out]
      rw [← HZ.out] at hHeld2
      generalize V0.alloc (.cells zeroA 37) = V8 at *
      clear hHeld hK K hXe
      have hHeld := hHeld2
      clear hHeld2
      refine wpAnyH_ready (rs := [1]) (by kernel_rfl) (by simp) ?_
      refine AllReadyH.cons rfl (fun K hK => ?_) AllReadyH.nil
      go_simp
      go_at_call 42
      refine (HL.out _ hHeld).mono ?_
      rintro e V9 ⟨rfl, hg⟩
      refine hK.out _ _ (hHeld.trans hg) (fun hHeld2 => ?_)
      replace hX := hX.gr hg
      clear hHeld hK K hg
      have hHeld := hHeld2
      clear hHeld2
      refine wpAnyH_ready (rs := [4]) (by kernel_rfl) (by simp) ?_
      refine AllReadyH.cons rfl (fun K hK => ?_) AllReadyH.nil
      go_simp
      go_at_call 74
      refine (HU.out _ hHeld).mono ?_
      rintro e V10 ⟨rfl, hg⟩
      refine hK.out _ _ (hHeld.trans hg) (fun hHeld2 => ?_)
      replace hX := hX.gr hg
      clear hHeld hK K hg
      have hHeld := hHeld2
      clear hHeld2
      refine wpAnyH_ready (rs := [6]) (by kernel_rfl) (by simp) ?_
      refine AllReadyH.cons rfl (fun K hK => ?_) AllReadyH.nil
      rw [if_pos (by rfl)]
      refine wp_store_mid 37 _ _ rfl X 0 _ rfl rfl (hX.zthere hm20) HN.out HO.out ?_
      refine hK.out _ _ (Gr.setCells X hXl _ _ _ hHeld) (fun hHeld3 => ?_)
      have hX2 := hX.zput hm20
      generalize V10.setCells X 0 (idV m).toArray.toList = V11 at *
      refine wpAnyH_done (by kernel_rfl) ?_ _
      go_wp2_with fail
      go_meet
      exact ⟨X, rfl, hHeld3, hX2⟩
  case rest =>
    obtain ⟨X, rfl, gx, aX⟩ := hcut
    have LX : Hid (∀ W, Gr wc W → (loadVar 37 ⟨X, 0, none⟩).run Yba.prog W = .ok (.agg (idV m).toArray) W) := fun W hW => idload ((aX.gr hW).all) hm20
    have LI : Hid (∀ W, Gr wc W → (loadVar 37 ⟨P3, 0, none⟩).run Yba.prog W = .ok (.agg (idV id).toArray) W) := fun W hW => idload (rangeAt_gr (gx.trans hW) HD.out.2.2.1) hid
    have LV : Hid (∀ W, Gr wc W → (loadVar 37 ⟨S, 0, none⟩).run Yba.prog W = .ok (.agg (idV v).toArray) W) := fun W hW => idload ((HD.out.2.2.2.gr (gx.trans hW)).all) hv
    have HDC : Hid (wc.cell? ⟨P1, 0, none⟩ = some (.pointer (some ⟨c.MB, 0, none⟩)) ∧ wc.cell? ⟨P2, 0, none⟩ = some (.int .i64 (r : Int))) := ⟨cell_gr gx HD.out.1, cell_gr gx HD.out.2.1⟩
    have HA2 : Hid (∀ W, Gr wc W → Calls Yba.prog 41 #[.pointer (some ⟨c.MB, 0, none⟩), .int .i64 (r : Int), .agg (idV v).toArray] W fun e w' => e = .returned (.bool ig) ∧ Gr W w') := fun W hW => HA.out W (gx.trans hW)
    have HB2 : Hid (∀ W, Gr wc W → Calls Yba.prog 75 #[.pointer (some ⟨c.MB, 0, none⟩), .agg (idV m).toArray] W fun e w' => e = .returned (.bool sb) ∧ Gr W w') := fun W hW => HB.out W (gx.trans hW)
    have HC2 : Hid (∀ W, Gr wc W → Calls Yba.prog 76 #[.pointer (some ⟨c.MB, 0, none⟩), .agg (idV m).toArray] W fun e w' => e = .returned (.bool false) ∧ Gr W w') := fun W hW => HC.out W (gx.trans hW)
    have HGc := hide (HGr.out.trans gx)
    have gw : Gr wc wc := Gr.refl wc
    have e1 := cell_gr (gw) HDC.out.1
    have e2 := cell_gr (gw) HDC.out.2
    clear HA HB HC HD gx aX HL HU HGr
    by_cases hmi : m = id
    · have hd : decide (m = id) = true := decide_eq_true hmi
      clear hmi
      go_wp2_with (first | refine wpList_load_run rfl 37 _ rfl X 0 rfl _ (LX.out _ (by assumption)) ?_ | refine wpList_load_run rfl 37 _ rfl P3 0 rfl _ (LI.out _ (by assumption)) ?_ | refine wpList_eql37 rfl _ _ rfl m id rfl rfl hm20 hid ?_ | refine wpList_load_want 37 _ rfl S 0 rfl _ (LV.out _ (by assumption)) (by kernel_rfl) ?_ | refine wpList_load_want 37 _ rfl X 0 rfl _ (LX.out _ (by assumption)) (by kernel_rfl) ?_)
      go_ret
      exact ⟨by rw [hd]; rfl, HGc.out.trans gw⟩
    · have hd : decide (m = id) = false := decide_eq_false hmi
      clear hmi
      cases ig with
      | false =>
        go_wp2_with (first | refine wpList_load_run rfl 37 _ rfl X 0 rfl _ (LX.out _ (by assumption)) ?_ | refine wpList_load_run rfl 37 _ rfl P3 0 rfl _ (LI.out _ (by assumption)) ?_ | refine wpList_eql37 rfl _ _ rfl m id rfl rfl hm20 hid ?_ | refine wpList_load_want 37 _ rfl S 0 rfl _ (LV.out _ (by assumption)) (by kernel_rfl) ?_ | refine wpList_load_want 37 _ rfl X 0 rfl _ (LX.out _ (by assumption)) (by kernel_rfl) ?_)
        refine (HA2.out _ gw).mono ?_
        rintro e w2 ⟨rfl, gq⟩
        have gw' := gw.trans gq
        clear gw gq e1 e2
        have gw := gw'
        clear gw'
        have e1 := cell_gr (gw) HDC.out.1
        have e2 := cell_gr (gw) HDC.out.2
        go_wp2_with (first | refine wpList_load_run rfl 37 _ rfl X 0 rfl _ (LX.out _ (by assumption)) ?_ | refine wpList_load_run rfl 37 _ rfl P3 0 rfl _ (LI.out _ (by assumption)) ?_ | refine wpList_eql37 rfl _ _ rfl m id rfl rfl hm20 hid ?_ | refine wpList_load_want 37 _ rfl S 0 rfl _ (LV.out _ (by assumption)) (by kernel_rfl) ?_ | refine wpList_load_want 37 _ rfl X 0 rfl _ (LX.out _ (by assumption)) (by kernel_rfl) ?_)
        go_ret
        exact ⟨by rw [hd]; rfl, HGc.out.trans gw⟩
      | true =>
        cases sb with
        | true =>
          go_wp2_with (first | refine wpList_load_run rfl 37 _ rfl X 0 rfl _ (LX.out _ (by assumption)) ?_ | refine wpList_load_run rfl 37 _ rfl P3 0 rfl _ (LI.out _ (by assumption)) ?_ | refine wpList_eql37 rfl _ _ rfl m id rfl rfl hm20 hid ?_ | refine wpList_load_want 37 _ rfl S 0 rfl _ (LV.out _ (by assumption)) (by kernel_rfl) ?_ | refine wpList_load_want 37 _ rfl X 0 rfl _ (LX.out _ (by assumption)) (by kernel_rfl) ?_)
          refine (HA2.out _ gw).mono ?_
          rintro e w2 ⟨rfl, gq⟩
          have gw' := gw.trans gq
          clear gw gq e1 e2
          have gw := gw'
          clear gw'
          have e1 := cell_gr (gw) HDC.out.1
          have e2 := cell_gr (gw) HDC.out.2
          go_wp2_with (first | refine wpList_load_run rfl 37 _ rfl X 0 rfl _ (LX.out _ (by assumption)) ?_ | refine wpList_load_run rfl 37 _ rfl P3 0 rfl _ (LI.out _ (by assumption)) ?_ | refine wpList_eql37 rfl _ _ rfl m id rfl rfl hm20 hid ?_ | refine wpList_load_want 37 _ rfl S 0 rfl _ (LV.out _ (by assumption)) (by kernel_rfl) ?_ | refine wpList_load_want 37 _ rfl X 0 rfl _ (LX.out _ (by assumption)) (by kernel_rfl) ?_)
          refine (HB2.out _ gw).mono ?_
          rintro e w3 ⟨rfl, gq⟩
          have gw' := gw.trans gq
          clear gw gq e1 e2
          have gw := gw'
          clear gw'
          have e1 := cell_gr (gw) HDC.out.1
          have e2 := cell_gr (gw) HDC.out.2
          go_wp2_with (first | refine wpList_load_run rfl 37 _ rfl X 0 rfl _ (LX.out _ (by assumption)) ?_ | refine wpList_load_run rfl 37 _ rfl P3 0 rfl _ (LI.out _ (by assumption)) ?_ | refine wpList_eql37 rfl _ _ rfl m id rfl rfl hm20 hid ?_ | refine wpList_load_want 37 _ rfl S 0 rfl _ (LV.out _ (by assumption)) (by kernel_rfl) ?_ | refine wpList_load_want 37 _ rfl X 0 rfl _ (LX.out _ (by assumption)) (by kernel_rfl) ?_)
          go_ret
          exact ⟨by rw [hd]; rfl, HGc.out.trans gw⟩
        | false =>
          go_wp2_with (first | refine wpList_load_run rfl 37 _ rfl X 0 rfl _ (LX.out _ (by assumption)) ?_ | refine wpList_load_run rfl 37 _ rfl P3 0 rfl _ (LI.out _ (by assumption)) ?_ | refine wpList_eql37 rfl _ _ rfl m id rfl rfl hm20 hid ?_ | refine wpList_load_want 37 _ rfl S 0 rfl _ (LV.out _ (by assumption)) (by kernel_rfl) ?_ | refine wpList_load_want 37 _ rfl X 0 rfl _ (LX.out _ (by assumption)) (by kernel_rfl) ?_)
          refine (HA2.out _ gw).mono ?_
          rintro e w2 ⟨rfl, gq⟩
          have gw' := gw.trans gq
          clear gw gq e1 e2
          have gw := gw'
          clear gw'
          have e1 := cell_gr (gw) HDC.out.1
          have e2 := cell_gr (gw) HDC.out.2
          go_wp2_with (first | refine wpList_load_run rfl 37 _ rfl X 0 rfl _ (LX.out _ (by assumption)) ?_ | refine wpList_load_run rfl 37 _ rfl P3 0 rfl _ (LI.out _ (by assumption)) ?_ | refine wpList_eql37 rfl _ _ rfl m id rfl rfl hm20 hid ?_ | refine wpList_load_want 37 _ rfl S 0 rfl _ (LV.out _ (by assumption)) (by kernel_rfl) ?_ | refine wpList_load_want 37 _ rfl X 0 rfl _ (LX.out _ (by assumption)) (by kernel_rfl) ?_)
          refine (HB2.out _ gw).mono ?_
          rintro e w3 ⟨rfl, gq⟩
          have gw' := gw.trans gq
          clear gw gq e1 e2
          have gw := gw'
          clear gw'
          have e1 := cell_gr (gw) HDC.out.1
          have e2 := cell_gr (gw) HDC.out.2
          go_wp2_with (first | refine wpList_load_run rfl 37 _ rfl X 0 rfl _ (LX.out _ (by assumption)) ?_ | refine wpList_load_run rfl 37 _ rfl P3 0 rfl _ (LI.out _ (by assumption)) ?_ | refine wpList_eql37 rfl _ _ rfl m id rfl rfl hm20 hid ?_ | refine wpList_load_want 37 _ rfl S 0 rfl _ (LV.out _ (by assumption)) (by kernel_rfl) ?_ | refine wpList_load_want 37 _ rfl X 0 rfl _ (LX.out _ (by assumption)) (by kernel_rfl) ?_)
          refine (HC2.out _ gw).mono ?_
          rintro e w4 ⟨rfl, gq⟩
          have gw' := gw.trans gq
          clear gw gq e1 e2
          have gw := gw'
          clear gw'
          have e1 := cell_gr (gw) HDC.out.1
          have e2 := cell_gr (gw) HDC.out.2
          go_wp2_with (first | refine wpList_load_run rfl 37 _ rfl X 0 rfl _ (LX.out _ (by assumption)) ?_ | refine wpList_load_run rfl 37 _ rfl P3 0 rfl _ (LI.out _ (by assumption)) ?_ | refine wpList_eql37 rfl _ _ rfl m id rfl rfl hm20 hid ?_ | refine wpList_load_want 37 _ rfl S 0 rfl _ (LV.out _ (by assumption)) (by kernel_rfl) ?_ | refine wpList_load_want 37 _ rfl X 0 rfl _ (LX.out _ (by assumption)) (by kernel_rfl) ?_)
          go_ret
          exact ⟨by rw [hd]; rfl, HGc.out.trans gw⟩
end Go.Proofs.Ybulkapqu
