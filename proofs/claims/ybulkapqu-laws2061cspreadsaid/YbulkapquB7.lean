import Derived.Test.YbulkapquB5
import Derived.Test.YbulkapquB6
namespace Go.Proofs.Ybulkapqu
open Go.RowKit Go.Sort

structure NSt (w : World) (lk la lb : List UInt8) (W : World) : Prop where
  gr : Gr w W
  hA : At W w.heap.size (idV lk).toArray 37
  hB : At W (w.heap.size + 1) (idV la).toArray 37
  hC : At W (w.heap.size + 1 + 1) (idV lb).toArray 37
theorem NSt.step {w : World} {lk la lb : List UInt8} {W W' : World} (h : NSt w lk la lb W) (g : Gr W W') : NSt w lk la lb W' := ⟨h.gr.trans g, h.hA.gr g, h.hB.gr g, h.hC.gr g⟩
theorem NSt.put {w : World} {lk la lb : List UInt8} {W : World} (h : NSt w lk la lb W) (X : Nat) (hX : w.heap.size + 1 + 1 < X) (vs : List Value) : NSt w lk la lb (W.setCells X 0 vs) :=
  ⟨Gr.setCells X (by omega) _ _ _ h.gr, h.hA.of_heap (heap_setCells_other _ _ (by omega) _ _ _), h.hB.of_heap (heap_setCells_other _ _ (by omega) _ _ _), h.hC.of_heap (heap_setCells_other _ _ (by omega) _ _ _)⟩
theorem nSt_start (w : World) (lk la lb : List UInt8) : NSt w lk la lb (((w.alloc (.cells (idV lk).toArray 37)).alloc (.cells (idV la).toArray 37)).alloc (.cells (idV lb).toArray 37)) := by
  refine ⟨(((Gr.refl w).alloc _).alloc _).alloc _, ((At.new w _ _).alloc _).alloc _, ?_, ?_⟩
  · have := At.new (w.alloc (.cells (idV lk).toArray 37)) (idV la).toArray 37
    rw [World.size_alloc] at this
    exact this.alloc _
  · have := At.new ((w.alloc (.cells (idV lk).toArray 37)).alloc (.cells (idV la).toArray 37)) (idV lb).toArray 37
    rw [World.size_alloc, World.size_alloc] at this
    exact this

theorem quiet_load_run {P : Program} {C : World → Prop} {o : Oper} {a : Act} {K : Act → Prop} (ty : TypeId) (x : Operand) (ho : o.op = .load ty x)
    (b off : Nat) (hx : a.eval x = .pointer (some ⟨b, off, none⟩)) (v : Value) (hr : ∀ w', C w' → (loadVar ty ⟨b, off, none⟩).run P w' = .ok v w') (h : K (a.put o.dst v)) : o.quiet P a C K :=
  ⟨v, fun w' hw' => by
    unfold Oper.quietAt execOp
    simp only [ho, hx, Instr.loadAt, Instr.sureAddr, Sem.run_bind, Sem.run_pure, Result.andThen_ok, hr w' hw']
    exact ⟨rfl, rfl⟩, h⟩

theorem quiet_eql37 {C : World → Prop} {o : Oper} {a : Act} {K : Act → Prop} (x y : Operand) (ho : o.op = .binOp .eql 37 x y 37) (la lb : List UInt8) (hx : a.eval x = .agg (idV la).toArray) (hy : a.eval y = .agg (idV lb).toArray)
    (hla : la.length = 20) (hlb : lb.length = 20) (h : K (a.put o.dst (.bool (decide (la = lb))))) : o.quiet Yba.prog a C K := by
  have hgd : Yba.prog.eqGuardType Yba.prog.depth 37 = false := by kernel_rfl
  have hq := run_eqIds la lb hla hlb
  refine ⟨_, fun w' hw' => ?_, h⟩
  have hrun : (execOp a.eval o).run Yba.prog w' = .ok (.value (.bool (decide (la = lb)))) w' := by
    unfold execOp
    simp only [ho, hx, hy]
    simp only [Sem.run_bind, run_eqGuard_agg w' .eql 37 x y _ _ hgd, Result.andThen_ok, run_eql_struct, hq, Sem.run_pure]
  unfold Oper.quietAt
  rw [hrun]
  exact ⟨rfl, rfl⟩

def nearL (lk la lb : List UInt8) : Bool := if Lib.beNat (distL lk la) = Lib.beNat (distL lk lb) then (decide (la ≠ lb) && decide (subL la lk = distL lk la)) else decide (Lib.beNat (distL lk la) < Lib.beNat (distL lk lb))

set_option maxHeartbeats 4000000 in
set_option maxRecDepth 1000000 in
theorem near_calls (w : World) (lk la lb : List UInt8) (hlk : lk.length = 20) (hla : la.length = 20) (hlb : lb.length = 20) :
    Calls Yba.prog 19 #[.agg (idV lk).toArray, .agg (idV la).toArray, .agg (idV lb).toArray] w fun e w' => e = .returned (.bool (nearL lk la lb)) ∧ Gr w w' := by
  have mixed : Yba.prog.follows .mixedOrders = true := by kernel_rfl
  have HI := hide (nSt_start w lk la lb)
  have hz : zeroA = #[.int .u8 0, .int .u8 0, .int .u8 0, .int .u8 0, .int .u8 0, .int .u8 0, .int .u8 0, .int .u8 0, .int .u8 0, .int .u8 0, .int .u8 0, .int .u8 0, .int .u8 0, .int .u8 0, .int .u8 0, .int .u8 0, .int .u8 0, .int .u8 0, .int .u8 0, .int .u8 0] := rfl
  have HZ := hide hz
  have hu37 : Yba.prog.underlying 37 = some (.array 20 5) := by kernel_rfl
  have hik : (Yba.prog.info? 37).map (·.size) = some (idV lk).length := by rw [length_idV, hlk]; kernel_rfl
  have hia : (Yba.prog.info? 37).map (·.size) = some (idV la).length := by rw [length_idV, hla]; kernel_rfl
  have hib : (Yba.prog.info? 37).map (·.size) = some (idV lb).length := by rw [length_idV, hlb]; kernel_rfl
  have hs1 := fun W => dist_calls W lk la hlk hla
  have hs2 := fun W => dist_calls W lk lb hlk hlb
  have HI1 := hide (id_info (length_distL lk la))
  have HI2 := hide (id_info (length_distL lk lb))
  have HO1 := hide (id_one (distL lk la))
  have HO2 := hide (id_one (distL lk lb))
  have Hs1 := hide hs1
  have Hs2 := hide hs2
  clear hs1 hs2 hz
  go_enter Yba.func19, Yba.ntmps19
  go_upto_region 1 with fail
  have J := HI.out
  clear HI
  generalize (((w.alloc (.cells (idV lk).toArray 37)).alloc (.cells (idV la).toArray 37)).alloc (.cells (idV lb).toArray 37)) = W1 at J ⊢
  generalize hS : w.heap.size = S at *
  go_cut [7, 8] (fun s7 s8 wx => ∃ X Y : Nat, s7 = .pointer (some ⟨X, 0, none⟩) ∧ s8 = .pointer (some ⟨Y, 0, none⟩) ∧ NSt w lk la lb wx ∧ At wx X (idV (distL lk la)).toArray 37 ∧ At wx Y (idV (distL lk lb)).toArray 37)
  case first =>
    refine wp_region_held_drew (S := NSt w lk la lb) (by kernel_rfl) (J.step ((Gr.refl W1).drew)) (fun hHeld => ?_)
    refine wpAnyH_take (i := 0) (v := _) rfl (by kernel_rfl) (by kernel_rfl) (by kernel_rfl) (fun _ _ _ h => h) (yieldsIf_load_mid (by rfl) 37 _ rfl S 0 rfl (idV lk) _ (fun W h => hS ▸ h.hA.all) hu37 rfl hik) (by assumption) ?_
    refine wpAnyH_take (i := 1) (v := _) rfl (by kernel_rfl) (by kernel_rfl) (by kernel_rfl) (fun _ _ _ h => h) (yieldsIf_load_mid (by rfl) 37 _ rfl (S + 1) 0 rfl (idV la) _ (fun W h => hS ▸ h.hB.all) hu37 rfl hia) (by assumption) ?_
    refine wpAnyH_take (i := 3) (v := _) rfl (by kernel_rfl) (by kernel_rfl) (by kernel_rfl) (fun _ _ _ h => h) (yieldsIf_load_mid (by rfl) 37 _ rfl S 0 rfl (idV lk) _ (fun W h => hS ▸ h.hA.all) hu37 rfl hik) (by assumption) ?_
    refine wpAnyH_take (i := 4) (v := _) rfl (by kernel_rfl) (by kernel_rfl) (by kernel_rfl) (fun _ _ _ h => h) (yieldsIf_load_mid (by rfl) 37 _ rfl (S + 1 + 1) 0 rfl (idV lb) _ (fun W h => hS ▸ h.hC.all) hu37 rfl hib) (by assumption) ?_
    change wpAnyH Yba.prog _ _ _ _ _ _ { tmps := #[.agg (idV lk).toArray, .agg (idV la).toArray, .agg (idV lb).toArray, .pointer (some ⟨S, 0, none⟩), .pointer (some ⟨S + 1, 0, none⟩), .pointer (some ⟨S + 1 + 1, 0, none⟩), .bool false, undef, undef, undef, .agg (idV lk).toArray, .agg (idV la).toArray, undef, .agg (idV lk).toArray, .agg (idV lb).toArray, undef, undef, undef, undef, undef, undef, undef, undef, undef, undef, undef, undef, undef, undef, undef, undef, undef, undef], defers := [] } _
    generalize W1.drew = V0 at hHeld ⊢
    clear J
    refine wpAnyH_ready (rs := [2, 6, 7]) (by kernel_rfl) (by simp) ?_
    refine (AllReadyH.cons rfl (fun K hK => ?_) (AllReadyH.cons rfl (fun K hK => ?_) (AllReadyH.cons rfl (fun K hK => ?_) AllReadyH.nil)))
    · go_simp
      go_at_call 16
      refine (Hs1.out _).mono ?_
      rintro e V1 ⟨rfl, hg⟩
      refine hK.out _ _ (hHeld.step hg) (fun hHeld2 => ?_)
      clear hHeld hK K
      have hHeld := hHeld2
      clear hHeld2
      clear hg
      refine wpAnyH_ready (rs := [5, 6, 7]) (by kernel_rfl) (by simp) ?_
      refine (AllReadyH.cons rfl (fun K hK => ?_) (AllReadyH.cons rfl (fun K hK => ?_) (AllReadyH.cons rfl (fun K hK => ?_) AllReadyH.nil)))
      · go_simp
        go_at_call 16
        refine (Hs2.out _).mono ?_
        rintro e V2 ⟨rfl, hg⟩
        refine hK.out _ _ (hHeld.step hg) (fun hHeld2 => ?_)
        clear hHeld hK K
        have hHeld := hHeld2
        clear hHeld2
        clear hg
        refine wpAnyH_ready (rs := [6, 7]) (by kernel_rfl) (by simp) ?_
        refine (AllReadyH.cons rfl (fun K hK => ?_) (AllReadyH.cons rfl (fun K hK => ?_) AllReadyH.nil))
        · go_simp
          refine hK.out _ _ (hHeld.step ((Gr.refl _).alloc _)) (fun hHeld2 => ?_)
          obtain ⟨X3, hXe⟩ : ∃ q, q = V2.heap.size := ⟨_, rfl⟩
          have hXl : S + 1 + 1 < X3 := by rw [hXe, ← hS]; exact hHeld.hC.lt
          have hX : At (V2.alloc (.cells zeroA 37)) X3 zeroA 37 := by rw [hXe]; exact At.new _ _ _
          rw [← hXe, ← HZ.out]
          rw [← HZ.out] at hHeld2
          generalize V2.alloc (.cells zeroA 37) = V3 at *
          clear hHeld hK K hXe
          have hHeld := hHeld2
          clear hHeld2
          refine wpAnyH_ready (rs := [7]) (by kernel_rfl) (by simp) ?_
          refine (AllReadyH.cons rfl (fun K hK => ?_) AllReadyH.nil)
          · go_simp
            refine hK.out _ _ (hHeld.step ((Gr.refl _).alloc _)) (fun hHeld2 => ?_)
            obtain ⟨Y4, hYe⟩ : ∃ q, q = V3.heap.size := ⟨_, rfl⟩
            have hYl : S + 1 + 1 < Y4 := by rw [hYe, ← hS]; exact hHeld.hC.lt
            have hY : At (V3.alloc (.cells zeroA 37)) Y4 zeroA 37 := by rw [hYe]; exact At.new _ _ _
            have hXY : X3 ≠ Y4 := by have := hX.lt; omega
            replace hX := hX.alloc (.cells zeroA 37)
            rw [← hYe, ← HZ.out]
            rw [← HZ.out] at hHeld2
            generalize V3.alloc (.cells zeroA 37) = V4 at *
            clear hHeld hK K hYe
            have hHeld := hHeld2
            clear hHeld2
            refine wpAnyH_ready (rs := [8]) (by kernel_rfl) (by simp) ?_
            refine AllReadyH.cons rfl (fun K hK => ?_) AllReadyH.nil
            rw [if_pos (by rfl)]
            refine wp_store_mid 37 _ _ rfl X3 0 _ rfl rfl (hX.zthere (length_distL lk la)) (HI1.out) (HO1.out) ?_
            refine hK.out _ _ (hHeld.put X3 (by omega) _) (fun hHeld2 => ?_)
            have hX2 := hX.zput (length_distL lk la)
            have hY2 : At (V4.setCells X3 0 (idV (distL lk la)).toArray.toList) Y4 zeroA 37 := hY.of_heap (heap_setCells_other _ _ (fun e => hXY e.symm) _ _ _)
            generalize V4.setCells X3 0 (idV (distL lk la)).toArray.toList = U at *
            clear hK K hHeld hX hY
            refine wpAnyH_ready (rs := [9]) (by kernel_rfl) (by simp) ?_
            refine AllReadyH.cons rfl (fun K hK => ?_) AllReadyH.nil
            rw [if_pos (by rfl)]
            refine wp_store_mid 37 _ _ rfl Y4 0 _ rfl rfl (hY2.zthere (length_distL lk lb)) (HI2.out) (HO2.out) ?_
            refine hK.out _ _ (hHeld2.put Y4 (by omega) _) (fun hHeld3 => ?_)
            have hY3 := hY2.zput (length_distL lk lb)
            have hX3 : At (U.setCells Y4 0 (idV (distL lk lb)).toArray.toList) X3 (idV (distL lk la)).toArray 37 := hX2.of_heap (heap_setCells_other _ _ hXY _ _ _)
            generalize U.setCells Y4 0 (idV (distL lk lb)).toArray.toList = U2 at *
            clear hK K hHeld2 hX2 hY2
            refine wpAnyH_done (by kernel_rfl) ?_ _
            go_wp2_with fail
            go_meet
            exact ⟨X3, Y4, rfl, rfl, hHeld3, hX3, hY3⟩
        · go_simp
          refine hK.out _ _ (hHeld.step ((Gr.refl _).alloc _)) (fun hHeld2 => ?_)
          obtain ⟨Y5, hYe⟩ : ∃ q, q = V2.heap.size := ⟨_, rfl⟩
          have hYl : S + 1 + 1 < Y5 := by rw [hYe, ← hS]; exact hHeld.hC.lt
          have hY : At (V2.alloc (.cells zeroA 37)) Y5 zeroA 37 := by rw [hYe]; exact At.new _ _ _
          rw [← hYe, ← HZ.out]
          rw [← HZ.out] at hHeld2
          generalize V2.alloc (.cells zeroA 37) = V5 at *
          clear hHeld hK K hYe
          have hHeld := hHeld2
          clear hHeld2
          refine wpAnyH_ready (rs := [6]) (by kernel_rfl) (by simp) ?_
          refine (AllReadyH.cons rfl (fun K hK => ?_) AllReadyH.nil)
          · go_simp
            refine hK.out _ _ (hHeld.step ((Gr.refl _).alloc _)) (fun hHeld2 => ?_)
            obtain ⟨X6, hXe⟩ : ∃ q, q = V5.heap.size := ⟨_, rfl⟩
            have hXl : S + 1 + 1 < X6 := by rw [hXe, ← hS]; exact hHeld.hC.lt
            have hX : At (V5.alloc (.cells zeroA 37)) X6 zeroA 37 := by rw [hXe]; exact At.new _ _ _
            have hXY : X6 ≠ Y5 := by have := hY.lt; omega
            replace hY := hY.alloc (.cells zeroA 37)
            rw [← hXe, ← HZ.out]
            rw [← HZ.out] at hHeld2
            generalize V5.alloc (.cells zeroA 37) = V6 at *
            clear hHeld hK K hXe
            have hHeld := hHeld2
            clear hHeld2
            refine wpAnyH_ready (rs := [8]) (by kernel_rfl) (by simp) ?_
            refine AllReadyH.cons rfl (fun K hK => ?_) AllReadyH.nil
            rw [if_pos (by rfl)]
            refine wp_store_mid 37 _ _ rfl X6 0 _ rfl rfl (hX.zthere (length_distL lk la)) (HI1.out) (HO1.out) ?_
            refine hK.out _ _ (hHeld.put X6 (by omega) _) (fun hHeld2 => ?_)
            have hX2 := hX.zput (length_distL lk la)
            have hY2 : At (V6.setCells X6 0 (idV (distL lk la)).toArray.toList) Y5 zeroA 37 := hY.of_heap (heap_setCells_other _ _ (fun e => hXY e.symm) _ _ _)
            generalize V6.setCells X6 0 (idV (distL lk la)).toArray.toList = U at *
            clear hK K hHeld hX hY
            refine wpAnyH_ready (rs := [9]) (by kernel_rfl) (by simp) ?_
            refine AllReadyH.cons rfl (fun K hK => ?_) AllReadyH.nil
            rw [if_pos (by rfl)]
            refine wp_store_mid 37 _ _ rfl Y5 0 _ rfl rfl (hY2.zthere (length_distL lk lb)) (HI2.out) (HO2.out) ?_
            refine hK.out _ _ (hHeld2.put Y5 (by omega) _) (fun hHeld3 => ?_)
            have hY3 := hY2.zput (length_distL lk lb)
            have hX3 : At (U.setCells Y5 0 (idV (distL lk lb)).toArray.toList) X6 (idV (distL lk la)).toArray 37 := hX2.of_heap (heap_setCells_other _ _ hXY _ _ _)
            generalize U.setCells Y5 0 (idV (distL lk lb)).toArray.toList = U2 at *
            clear hK K hHeld2 hX2 hY2
            refine wpAnyH_done (by kernel_rfl) ?_ _
            go_wp2_with fail
            go_meet
            exact ⟨X6, Y5, rfl, rfl, hHeld3, hX3, hY3⟩
      · go_simp
        refine hK.out _ _ (hHeld.step ((Gr.refl _).alloc _)) (fun hHeld2 => ?_)
        obtain ⟨X7, hXe⟩ : ∃ q, q = V1.heap.size := ⟨_, rfl⟩
        have hXl : S + 1 + 1 < X7 := by rw [hXe, ← hS]; exact hHeld.hC.lt
        have hX : At (V1.alloc (.cells zeroA 37)) X7 zeroA 37 := by rw [hXe]; exact At.new _ _ _
        rw [← hXe, ← HZ.out]
        rw [← HZ.out] at hHeld2
        generalize V1.alloc (.cells zeroA 37) = V7 at *
        clear hHeld hK K hXe
        have hHeld := hHeld2
        clear hHeld2
        refine wpAnyH_ready (rs := [5, 7]) (by kernel_rfl) (by simp) ?_
        refine (AllReadyH.cons rfl (fun K hK => ?_) (AllReadyH.cons rfl (fun K hK => ?_) AllReadyH.nil))
        · go_simp
          go_at_call 16
          refine (Hs2.out _).mono ?_
          rintro e V8 ⟨rfl, hg⟩
          refine hK.out _ _ (hHeld.step hg) (fun hHeld2 => ?_)
          clear hHeld hK K
          have hHeld := hHeld2
          clear hHeld2
          replace hX := hX.gr hg
          clear hg
          refine wpAnyH_ready (rs := [7]) (by kernel_rfl) (by simp) ?_
          refine (AllReadyH.cons rfl (fun K hK => ?_) AllReadyH.nil)
          · go_simp
            refine hK.out _ _ (hHeld.step ((Gr.refl _).alloc _)) (fun hHeld2 => ?_)
            obtain ⟨Y9, hYe⟩ : ∃ q, q = V8.heap.size := ⟨_, rfl⟩
            have hYl : S + 1 + 1 < Y9 := by rw [hYe, ← hS]; exact hHeld.hC.lt
            have hY : At (V8.alloc (.cells zeroA 37)) Y9 zeroA 37 := by rw [hYe]; exact At.new _ _ _
            have hXY : X7 ≠ Y9 := by have := hX.lt; omega
            replace hX := hX.alloc (.cells zeroA 37)
            rw [← hYe, ← HZ.out]
            rw [← HZ.out] at hHeld2
            generalize V8.alloc (.cells zeroA 37) = V9 at *
            clear hHeld hK K hYe
            have hHeld := hHeld2
            clear hHeld2
            refine wpAnyH_ready (rs := [8]) (by kernel_rfl) (by simp) ?_
            refine AllReadyH.cons rfl (fun K hK => ?_) AllReadyH.nil
            rw [if_pos (by rfl)]
            refine wp_store_mid 37 _ _ rfl X7 0 _ rfl rfl (hX.zthere (length_distL lk la)) (HI1.out) (HO1.out) ?_
            refine hK.out _ _ (hHeld.put X7 (by omega) _) (fun hHeld2 => ?_)
            have hX2 := hX.zput (length_distL lk la)
            have hY2 : At (V9.setCells X7 0 (idV (distL lk la)).toArray.toList) Y9 zeroA 37 := hY.of_heap (heap_setCells_other _ _ (fun e => hXY e.symm) _ _ _)
            generalize V9.setCells X7 0 (idV (distL lk la)).toArray.toList = U at *
            clear hK K hHeld hX hY
            refine wpAnyH_ready (rs := [9]) (by kernel_rfl) (by simp) ?_
            refine AllReadyH.cons rfl (fun K hK => ?_) AllReadyH.nil
            rw [if_pos (by rfl)]
            refine wp_store_mid 37 _ _ rfl Y9 0 _ rfl rfl (hY2.zthere (length_distL lk lb)) (HI2.out) (HO2.out) ?_
            refine hK.out _ _ (hHeld2.put Y9 (by omega) _) (fun hHeld3 => ?_)
            have hY3 := hY2.zput (length_distL lk lb)
            have hX3 : At (U.setCells Y9 0 (idV (distL lk lb)).toArray.toList) X7 (idV (distL lk la)).toArray 37 := hX2.of_heap (heap_setCells_other _ _ hXY _ _ _)
            generalize U.setCells Y9 0 (idV (distL lk lb)).toArray.toList = U2 at *
            clear hK K hHeld2 hX2 hY2
            refine wpAnyH_done (by kernel_rfl) ?_ _
            go_wp2_with fail
            go_meet
            exact ⟨X7, Y9, rfl, rfl, hHeld3, hX3, hY3⟩
        · go_simp
          refine hK.out _ _ (hHeld.step ((Gr.refl _).alloc _)) (fun hHeld2 => ?_)
          obtain ⟨Y10, hYe⟩ : ∃ q, q = V7.heap.size := ⟨_, rfl⟩
          have hYl : S + 1 + 1 < Y10 := by rw [hYe, ← hS]; exact hHeld.hC.lt
          have hY : At (V7.alloc (.cells zeroA 37)) Y10 zeroA 37 := by rw [hYe]; exact At.new _ _ _
          have hXY : X7 ≠ Y10 := by have := hX.lt; omega
          replace hX := hX.alloc (.cells zeroA 37)
          rw [← hYe, ← HZ.out]
          rw [← HZ.out] at hHeld2
          generalize V7.alloc (.cells zeroA 37) = V10 at *
          clear hHeld hK K hYe
          have hHeld := hHeld2
          clear hHeld2
          refine wpAnyH_ready (rs := [5]) (by kernel_rfl) (by simp) ?_
          refine (AllReadyH.cons rfl (fun K hK => ?_) AllReadyH.nil)
          · go_simp
            go_at_call 16
            refine (Hs2.out _).mono ?_
            rintro e V11 ⟨rfl, hg⟩
            refine hK.out _ _ (hHeld.step hg) (fun hHeld2 => ?_)
            clear hHeld hK K
            have hHeld := hHeld2
            clear hHeld2
            replace hX := hX.gr hg
            replace hY := hY.gr hg
            clear hg
            refine wpAnyH_ready (rs := [8]) (by kernel_rfl) (by simp) ?_
            refine AllReadyH.cons rfl (fun K hK => ?_) AllReadyH.nil
            rw [if_pos (by rfl)]
            refine wp_store_mid 37 _ _ rfl X7 0 _ rfl rfl (hX.zthere (length_distL lk la)) (HI1.out) (HO1.out) ?_
            refine hK.out _ _ (hHeld.put X7 (by omega) _) (fun hHeld2 => ?_)
            have hX2 := hX.zput (length_distL lk la)
            have hY2 : At (V11.setCells X7 0 (idV (distL lk la)).toArray.toList) Y10 zeroA 37 := hY.of_heap (heap_setCells_other _ _ (fun e => hXY e.symm) _ _ _)
            generalize V11.setCells X7 0 (idV (distL lk la)).toArray.toList = U at *
            clear hK K hHeld hX hY
            refine wpAnyH_ready (rs := [9]) (by kernel_rfl) (by simp) ?_
            refine AllReadyH.cons rfl (fun K hK => ?_) AllReadyH.nil
            rw [if_pos (by rfl)]
            refine wp_store_mid 37 _ _ rfl Y10 0 _ rfl rfl (hY2.zthere (length_distL lk lb)) (HI2.out) (HO2.out) ?_
            refine hK.out _ _ (hHeld2.put Y10 (by omega) _) (fun hHeld3 => ?_)
            have hY3 := hY2.zput (length_distL lk lb)
            have hX3 : At (U.setCells Y10 0 (idV (distL lk lb)).toArray.toList) X7 (idV (distL lk la)).toArray 37 := hX2.of_heap (heap_setCells_other _ _ hXY _ _ _)
            generalize U.setCells Y10 0 (idV (distL lk lb)).toArray.toList = U2 at *
            clear hK K hHeld2 hX2 hY2
            refine wpAnyH_done (by kernel_rfl) ?_ _
            go_wp2_with fail
            go_meet
            exact ⟨X7, Y10, rfl, rfl, hHeld3, hX3, hY3⟩
      · go_simp
        refine hK.out _ _ (hHeld.step ((Gr.refl _).alloc _)) (fun hHeld2 => ?_)
        obtain ⟨Y12, hYe⟩ : ∃ q, q = V1.heap.size := ⟨_, rfl⟩
        have hYl : S + 1 + 1 < Y12 := by rw [hYe, ← hS]; exact hHeld.hC.lt
        have hY : At (V1.alloc (.cells zeroA 37)) Y12 zeroA 37 := by rw [hYe]; exact At.new _ _ _
        rw [← hYe, ← HZ.out]
        rw [← HZ.out] at hHeld2
        generalize V1.alloc (.cells zeroA 37) = V12 at *
        clear hHeld hK K hYe
        have hHeld := hHeld2
        clear hHeld2
        refine wpAnyH_ready (rs := [5, 6]) (by kernel_rfl) (by simp) ?_
        refine (AllReadyH.cons rfl (fun K hK => ?_) (AllReadyH.cons rfl (fun K hK => ?_) AllReadyH.nil))
        · go_simp
          go_at_call 16
          refine (Hs2.out _).mono ?_
          rintro e V13 ⟨rfl, hg⟩
          refine hK.out _ _ (hHeld.step hg) (fun hHeld2 => ?_)
          clear hHeld hK K
          have hHeld := hHeld2
          clear hHeld2
          replace hY := hY.gr hg
          clear hg
          refine wpAnyH_ready (rs := [6]) (by kernel_rfl) (by simp) ?_
          refine (AllReadyH.cons rfl (fun K hK => ?_) AllReadyH.nil)
          · go_simp
            refine hK.out _ _ (hHeld.step ((Gr.refl _).alloc _)) (fun hHeld2 => ?_)
            obtain ⟨X14, hXe⟩ : ∃ q, q = V13.heap.size := ⟨_, rfl⟩
            have hXl : S + 1 + 1 < X14 := by rw [hXe, ← hS]; exact hHeld.hC.lt
            have hX : At (V13.alloc (.cells zeroA 37)) X14 zeroA 37 := by rw [hXe]; exact At.new _ _ _
            have hXY : X14 ≠ Y12 := by have := hY.lt; omega
            replace hY := hY.alloc (.cells zeroA 37)
            rw [← hXe, ← HZ.out]
            rw [← HZ.out] at hHeld2
            generalize V13.alloc (.cells zeroA 37) = V14 at *
            clear hHeld hK K hXe
            have hHeld := hHeld2
            clear hHeld2
            refine wpAnyH_ready (rs := [8]) (by kernel_rfl) (by simp) ?_
            refine AllReadyH.cons rfl (fun K hK => ?_) AllReadyH.nil
            rw [if_pos (by rfl)]
            refine wp_store_mid 37 _ _ rfl X14 0 _ rfl rfl (hX.zthere (length_distL lk la)) (HI1.out) (HO1.out) ?_
            refine hK.out _ _ (hHeld.put X14 (by omega) _) (fun hHeld2 => ?_)
            have hX2 := hX.zput (length_distL lk la)
            have hY2 : At (V14.setCells X14 0 (idV (distL lk la)).toArray.toList) Y12 zeroA 37 := hY.of_heap (heap_setCells_other _ _ (fun e => hXY e.symm) _ _ _)
            generalize V14.setCells X14 0 (idV (distL lk la)).toArray.toList = U at *
            clear hK K hHeld hX hY
            refine wpAnyH_ready (rs := [9]) (by kernel_rfl) (by simp) ?_
            refine AllReadyH.cons rfl (fun K hK => ?_) AllReadyH.nil
            rw [if_pos (by rfl)]
            refine wp_store_mid 37 _ _ rfl Y12 0 _ rfl rfl (hY2.zthere (length_distL lk lb)) (HI2.out) (HO2.out) ?_
            refine hK.out _ _ (hHeld2.put Y12 (by omega) _) (fun hHeld3 => ?_)
            have hY3 := hY2.zput (length_distL lk lb)
            have hX3 : At (U.setCells Y12 0 (idV (distL lk lb)).toArray.toList) X14 (idV (distL lk la)).toArray 37 := hX2.of_heap (heap_setCells_other _ _ hXY _ _ _)
            generalize U.setCells Y12 0 (idV (distL lk lb)).toArray.toList = U2 at *
            clear hK K hHeld2 hX2 hY2
            refine wpAnyH_done (by kernel_rfl) ?_ _
            go_wp2_with fail
            go_meet
            exact ⟨X14, Y12, rfl, rfl, hHeld3, hX3, hY3⟩
        · go_simp
          refine hK.out _ _ (hHeld.step ((Gr.refl _).alloc _)) (fun hHeld2 => ?_)
          obtain ⟨X15, hXe⟩ : ∃ q, q = V12.heap.size := ⟨_, rfl⟩
          have hXl : S + 1 + 1 < X15 := by rw [hXe, ← hS]; exact hHeld.hC.lt
          have hX : At (V12.alloc (.cells zeroA 37)) X15 zeroA 37 := by rw [hXe]; exact At.new _ _ _
          have hXY : X15 ≠ Y12 := by have := hY.lt; omega
          replace hY := hY.alloc (.cells zeroA 37)
          rw [← hXe, ← HZ.out]
          rw [← HZ.out] at hHeld2
          generalize V12.alloc (.cells zeroA 37) = V15 at *
          clear hHeld hK K hXe
          have hHeld := hHeld2
          clear hHeld2
          refine wpAnyH_ready (rs := [5]) (by kernel_rfl) (by simp) ?_
          refine (AllReadyH.cons rfl (fun K hK => ?_) AllReadyH.nil)
          · go_simp
            go_at_call 16
            refine (Hs2.out _).mono ?_
            rintro e V16 ⟨rfl, hg⟩
            refine hK.out _ _ (hHeld.step hg) (fun hHeld2 => ?_)
            clear hHeld hK K
            have hHeld := hHeld2
            clear hHeld2
            replace hX := hX.gr hg
            replace hY := hY.gr hg
            clear hg
            refine wpAnyH_ready (rs := [8]) (by kernel_rfl) (by simp) ?_
            refine AllReadyH.cons rfl (fun K hK => ?_) AllReadyH.nil
            rw [if_pos (by rfl)]
            refine wp_store_mid 37 _ _ rfl X15 0 _ rfl rfl (hX.zthere (length_distL lk la)) (HI1.out) (HO1.out) ?_
            refine hK.out _ _ (hHeld.put X15 (by omega) _) (fun hHeld2 => ?_)
            have hX2 := hX.zput (length_distL lk la)
            have hY2 : At (V16.setCells X15 0 (idV (distL lk la)).toArray.toList) Y12 zeroA 37 := hY.of_heap (heap_setCells_other _ _ (fun e => hXY e.symm) _ _ _)
            generalize V16.setCells X15 0 (idV (distL lk la)).toArray.toList = U at *
            clear hK K hHeld hX hY
            refine wpAnyH_ready (rs := [9]) (by kernel_rfl) (by simp) ?_
            refine AllReadyH.cons rfl (fun K hK => ?_) AllReadyH.nil
            rw [if_pos (by rfl)]
            refine wp_store_mid 37 _ _ rfl Y12 0 _ rfl rfl (hY2.zthere (length_distL lk lb)) (HI2.out) (HO2.out) ?_
            refine hK.out _ _ (hHeld2.put Y12 (by omega) _) (fun hHeld3 => ?_)
            have hY3 := hY2.zput (length_distL lk lb)
            have hX3 : At (U.setCells Y12 0 (idV (distL lk lb)).toArray.toList) X15 (idV (distL lk la)).toArray 37 := hX2.of_heap (heap_setCells_other _ _ hXY _ _ _)
            generalize U.setCells Y12 0 (idV (distL lk lb)).toArray.toList = U2 at *
            clear hK K hHeld2 hX2 hY2
            refine wpAnyH_done (by kernel_rfl) ?_ _
            go_wp2_with fail
            go_meet
            exact ⟨X15, Y12, rfl, rfl, hHeld3, hX3, hY3⟩
    · go_simp
      refine hK.out _ _ (hHeld.step ((Gr.refl _).alloc _)) (fun hHeld2 => ?_)
      obtain ⟨X17, hXe⟩ : ∃ q, q = V0.heap.size := ⟨_, rfl⟩
      have hXl : S + 1 + 1 < X17 := by rw [hXe, ← hS]; exact hHeld.hC.lt
      have hX : At (V0.alloc (.cells zeroA 37)) X17 zeroA 37 := by rw [hXe]; exact At.new _ _ _
      rw [← hXe, ← HZ.out]
      rw [← HZ.out] at hHeld2
      generalize V0.alloc (.cells zeroA 37) = V17 at *
      clear hHeld hK K hXe
      have hHeld := hHeld2
      clear hHeld2
      refine wpAnyH_ready (rs := [2, 7]) (by kernel_rfl) (by simp) ?_
      refine (AllReadyH.cons rfl (fun K hK => ?_) (AllReadyH.cons rfl (fun K hK => ?_) AllReadyH.nil))
      · go_simp
        go_at_call 16
        refine (Hs1.out _).mono ?_
        rintro e V18 ⟨rfl, hg⟩
        refine hK.out _ _ (hHeld.step hg) (fun hHeld2 => ?_)
        clear hHeld hK K
        have hHeld := hHeld2
        clear hHeld2
        replace hX := hX.gr hg
        clear hg
        refine wpAnyH_ready (rs := [5, 7]) (by kernel_rfl) (by simp) ?_
        refine (AllReadyH.cons rfl (fun K hK => ?_) (AllReadyH.cons rfl (fun K hK => ?_) AllReadyH.nil))
        · go_simp
          go_at_call 16
          refine (Hs2.out _).mono ?_
          rintro e V19 ⟨rfl, hg⟩
          refine hK.out _ _ (hHeld.step hg) (fun hHeld2 => ?_)
          clear hHeld hK K
          have hHeld := hHeld2
          clear hHeld2
          replace hX := hX.gr hg
          clear hg
          refine wpAnyH_ready (rs := [7]) (by kernel_rfl) (by simp) ?_
          refine (AllReadyH.cons rfl (fun K hK => ?_) AllReadyH.nil)
          · go_simp
            refine hK.out _ _ (hHeld.step ((Gr.refl _).alloc _)) (fun hHeld2 => ?_)
            obtain ⟨Y20, hYe⟩ : ∃ q, q = V19.heap.size := ⟨_, rfl⟩
            have hYl : S + 1 + 1 < Y20 := by rw [hYe, ← hS]; exact hHeld.hC.lt
            have hY : At (V19.alloc (.cells zeroA 37)) Y20 zeroA 37 := by rw [hYe]; exact At.new _ _ _
            have hXY : X17 ≠ Y20 := by have := hX.lt; omega
            replace hX := hX.alloc (.cells zeroA 37)
            rw [← hYe, ← HZ.out]
            rw [← HZ.out] at hHeld2
            generalize V19.alloc (.cells zeroA 37) = V20 at *
            clear hHeld hK K hYe
            have hHeld := hHeld2
            clear hHeld2
            refine wpAnyH_ready (rs := [8]) (by kernel_rfl) (by simp) ?_
            refine AllReadyH.cons rfl (fun K hK => ?_) AllReadyH.nil
            rw [if_pos (by rfl)]
            refine wp_store_mid 37 _ _ rfl X17 0 _ rfl rfl (hX.zthere (length_distL lk la)) (HI1.out) (HO1.out) ?_
            refine hK.out _ _ (hHeld.put X17 (by omega) _) (fun hHeld2 => ?_)
            have hX2 := hX.zput (length_distL lk la)
            have hY2 : At (V20.setCells X17 0 (idV (distL lk la)).toArray.toList) Y20 zeroA 37 := hY.of_heap (heap_setCells_other _ _ (fun e => hXY e.symm) _ _ _)
            generalize V20.setCells X17 0 (idV (distL lk la)).toArray.toList = U at *
            clear hK K hHeld hX hY
            refine wpAnyH_ready (rs := [9]) (by kernel_rfl) (by simp) ?_
            refine AllReadyH.cons rfl (fun K hK => ?_) AllReadyH.nil
            rw [if_pos (by rfl)]
            refine wp_store_mid 37 _ _ rfl Y20 0 _ rfl rfl (hY2.zthere (length_distL lk lb)) (HI2.out) (HO2.out) ?_
            refine hK.out _ _ (hHeld2.put Y20 (by omega) _) (fun hHeld3 => ?_)
            have hY3 := hY2.zput (length_distL lk lb)
            have hX3 : At (U.setCells Y20 0 (idV (distL lk lb)).toArray.toList) X17 (idV (distL lk la)).toArray 37 := hX2.of_heap (heap_setCells_other _ _ hXY _ _ _)
            generalize U.setCells Y20 0 (idV (distL lk lb)).toArray.toList = U2 at *
            clear hK K hHeld2 hX2 hY2
            refine wpAnyH_done (by kernel_rfl) ?_ _
            go_wp2_with fail
            go_meet
            exact ⟨X17, Y20, rfl, rfl, hHeld3, hX3, hY3⟩
        · go_simp
          refine hK.out _ _ (hHeld.step ((Gr.refl _).alloc _)) (fun hHeld2 => ?_)
          obtain ⟨Y21, hYe⟩ : ∃ q, q = V18.heap.size := ⟨_, rfl⟩
          have hYl : S + 1 + 1 < Y21 := by rw [hYe, ← hS]; exact hHeld.hC.lt
          have hY : At (V18.alloc (.cells zeroA 37)) Y21 zeroA 37 := by rw [hYe]; exact At.new _ _ _
          have hXY : X17 ≠ Y21 := by have := hX.lt; omega
          replace hX := hX.alloc (.cells zeroA 37)
          rw [← hYe, ← HZ.out]
          rw [← HZ.out] at hHeld2
          generalize V18.alloc (.cells zeroA 37) = V21 at *
          clear hHeld hK K hYe
          have hHeld := hHeld2
          clear hHeld2
          refine wpAnyH_ready (rs := [5]) (by kernel_rfl) (by simp) ?_
          refine (AllReadyH.cons rfl (fun K hK => ?_) AllReadyH.nil)
          · go_simp
            go_at_call 16
            refine (Hs2.out _).mono ?_
            rintro e V22 ⟨rfl, hg⟩
            refine hK.out _ _ (hHeld.step hg) (fun hHeld2 => ?_)
            clear hHeld hK K
            have hHeld := hHeld2
            clear hHeld2
            replace hX := hX.gr hg
            replace hY := hY.gr hg
            clear hg
            refine wpAnyH_ready (rs := [8]) (by kernel_rfl) (by simp) ?_
            refine AllReadyH.cons rfl (fun K hK => ?_) AllReadyH.nil
            rw [if_pos (by rfl)]
            refine wp_store_mid 37 _ _ rfl X17 0 _ rfl rfl (hX.zthere (length_distL lk la)) (HI1.out) (HO1.out) ?_
            refine hK.out _ _ (hHeld.put X17 (by omega) _) (fun hHeld2 => ?_)
            have hX2 := hX.zput (length_distL lk la)
            have hY2 : At (V22.setCells X17 0 (idV (distL lk la)).toArray.toList) Y21 zeroA 37 := hY.of_heap (heap_setCells_other _ _ (fun e => hXY e.symm) _ _ _)
            generalize V22.setCells X17 0 (idV (distL lk la)).toArray.toList = U at *
            clear hK K hHeld hX hY
            refine wpAnyH_ready (rs := [9]) (by kernel_rfl) (by simp) ?_
            refine AllReadyH.cons rfl (fun K hK => ?_) AllReadyH.nil
            rw [if_pos (by rfl)]
            refine wp_store_mid 37 _ _ rfl Y21 0 _ rfl rfl (hY2.zthere (length_distL lk lb)) (HI2.out) (HO2.out) ?_
            refine hK.out _ _ (hHeld2.put Y21 (by omega) _) (fun hHeld3 => ?_)
            have hY3 := hY2.zput (length_distL lk lb)
            have hX3 : At (U.setCells Y21 0 (idV (distL lk lb)).toArray.toList) X17 (idV (distL lk la)).toArray 37 := hX2.of_heap (heap_setCells_other _ _ hXY _ _ _)
            generalize U.setCells Y21 0 (idV (distL lk lb)).toArray.toList = U2 at *
            clear hK K hHeld2 hX2 hY2
            refine wpAnyH_done (by kernel_rfl) ?_ _
            go_wp2_with fail
            go_meet
            exact ⟨X17, Y21, rfl, rfl, hHeld3, hX3, hY3⟩
      · go_simp
        refine hK.out _ _ (hHeld.step ((Gr.refl _).alloc _)) (fun hHeld2 => ?_)
        obtain ⟨Y23, hYe⟩ : ∃ q, q = V17.heap.size := ⟨_, rfl⟩
        have hYl : S + 1 + 1 < Y23 := by rw [hYe, ← hS]; exact hHeld.hC.lt
        have hY : At (V17.alloc (.cells zeroA 37)) Y23 zeroA 37 := by rw [hYe]; exact At.new _ _ _
        have hXY : X17 ≠ Y23 := by have := hX.lt; omega
        replace hX := hX.alloc (.cells zeroA 37)
        rw [← hYe, ← HZ.out]
        rw [← HZ.out] at hHeld2
        generalize V17.alloc (.cells zeroA 37) = V23 at *
        clear hHeld hK K hYe
        have hHeld := hHeld2
        clear hHeld2
        refine wpAnyH_ready (rs := [2]) (by kernel_rfl) (by simp) ?_
        refine (AllReadyH.cons rfl (fun K hK => ?_) AllReadyH.nil)
        · go_simp
          go_at_call 16
          refine (Hs1.out _).mono ?_
          rintro e V24 ⟨rfl, hg⟩
          refine hK.out _ _ (hHeld.step hg) (fun hHeld2 => ?_)
          clear hHeld hK K
          have hHeld := hHeld2
          clear hHeld2
          replace hX := hX.gr hg
          replace hY := hY.gr hg
          clear hg
          refine wpAnyH_ready (rs := [5]) (by kernel_rfl) (by simp) ?_
          refine (AllReadyH.cons rfl (fun K hK => ?_) AllReadyH.nil)
          · go_simp
            go_at_call 16
            refine (Hs2.out _).mono ?_
            rintro e V25 ⟨rfl, hg⟩
            refine hK.out _ _ (hHeld.step hg) (fun hHeld2 => ?_)
            clear hHeld hK K
            have hHeld := hHeld2
            clear hHeld2
            replace hX := hX.gr hg
            replace hY := hY.gr hg
            clear hg
            refine wpAnyH_ready (rs := [8]) (by kernel_rfl) (by simp) ?_
            refine AllReadyH.cons rfl (fun K hK => ?_) AllReadyH.nil
            rw [if_pos (by rfl)]
            refine wp_store_mid 37 _ _ rfl X17 0 _ rfl rfl (hX.zthere (length_distL lk la)) (HI1.out) (HO1.out) ?_
            refine hK.out _ _ (hHeld.put X17 (by omega) _) (fun hHeld2 => ?_)
            have hX2 := hX.zput (length_distL lk la)
            have hY2 : At (V25.setCells X17 0 (idV (distL lk la)).toArray.toList) Y23 zeroA 37 := hY.of_heap (heap_setCells_other _ _ (fun e => hXY e.symm) _ _ _)
            generalize V25.setCells X17 0 (idV (distL lk la)).toArray.toList = U at *
            clear hK K hHeld hX hY
            refine wpAnyH_ready (rs := [9]) (by kernel_rfl) (by simp) ?_
            refine AllReadyH.cons rfl (fun K hK => ?_) AllReadyH.nil
            rw [if_pos (by rfl)]
            refine wp_store_mid 37 _ _ rfl Y23 0 _ rfl rfl (hY2.zthere (length_distL lk lb)) (HI2.out) (HO2.out) ?_
            refine hK.out _ _ (hHeld2.put Y23 (by omega) _) (fun hHeld3 => ?_)
            have hY3 := hY2.zput (length_distL lk lb)
            have hX3 : At (U.setCells Y23 0 (idV (distL lk lb)).toArray.toList) X17 (idV (distL lk la)).toArray 37 := hX2.of_heap (heap_setCells_other _ _ hXY _ _ _)
            generalize U.setCells Y23 0 (idV (distL lk lb)).toArray.toList = U2 at *
            clear hK K hHeld2 hX2 hY2
            refine wpAnyH_done (by kernel_rfl) ?_ _
            go_wp2_with fail
            go_meet
            exact ⟨X17, Y23, rfl, rfl, hHeld3, hX3, hY3⟩
    · go_simp
      refine hK.out _ _ (hHeld.step ((Gr.refl _).alloc _)) (fun hHeld2 => ?_)
      obtain ⟨Y26, hYe⟩ : ∃ q, q = V0.heap.size := ⟨_, rfl⟩
      have hYl : S + 1 + 1 < Y26 := by rw [hYe, ← hS]; exact hHeld.hC.lt
      have hY : At (V0.alloc (.cells zeroA 37)) Y26 zeroA 37 := by rw [hYe]; exact At.new _ _ _
      rw [← hYe, ← HZ.out]
      rw [← HZ.out] at hHeld2
      generalize V0.alloc (.cells zeroA 37) = V26 at *
      clear hHeld hK K hYe
      have hHeld := hHeld2
      clear hHeld2
      refine wpAnyH_ready (rs := [2, 6]) (by kernel_rfl) (by simp) ?_
      refine (AllReadyH.cons rfl (fun K hK => ?_) (AllReadyH.cons rfl (fun K hK => ?_) AllReadyH.nil))
      · go_simp
        go_at_call 16
        refine (Hs1.out _).mono ?_
        rintro e V27 ⟨rfl, hg⟩
        refine hK.out _ _ (hHeld.step hg) (fun hHeld2 => ?_)
        clear hHeld hK K
        have hHeld := hHeld2
        clear hHeld2
        replace hY := hY.gr hg
        clear hg
        refine wpAnyH_ready (rs := [5, 6]) (by kernel_rfl) (by simp) ?_
        refine (AllReadyH.cons rfl (fun K hK => ?_) (AllReadyH.cons rfl (fun K hK => ?_) AllReadyH.nil))
        · go_simp
          go_at_call 16
          refine (Hs2.out _).mono ?_
          rintro e V28 ⟨rfl, hg⟩
          refine hK.out _ _ (hHeld.step hg) (fun hHeld2 => ?_)
          clear hHeld hK K
          have hHeld := hHeld2
          clear hHeld2
          replace hY := hY.gr hg
          clear hg
          refine wpAnyH_ready (rs := [6]) (by kernel_rfl) (by simp) ?_
          refine (AllReadyH.cons rfl (fun K hK => ?_) AllReadyH.nil)
          · go_simp
            refine hK.out _ _ (hHeld.step ((Gr.refl _).alloc _)) (fun hHeld2 => ?_)
            obtain ⟨X29, hXe⟩ : ∃ q, q = V28.heap.size := ⟨_, rfl⟩
            have hXl : S + 1 + 1 < X29 := by rw [hXe, ← hS]; exact hHeld.hC.lt
            have hX : At (V28.alloc (.cells zeroA 37)) X29 zeroA 37 := by rw [hXe]; exact At.new _ _ _
            have hXY : X29 ≠ Y26 := by have := hY.lt; omega
            replace hY := hY.alloc (.cells zeroA 37)
            rw [← hXe, ← HZ.out]
            rw [← HZ.out] at hHeld2
            generalize V28.alloc (.cells zeroA 37) = V29 at *
            clear hHeld hK K hXe
            have hHeld := hHeld2
            clear hHeld2
            refine wpAnyH_ready (rs := [8]) (by kernel_rfl) (by simp) ?_
            refine AllReadyH.cons rfl (fun K hK => ?_) AllReadyH.nil
            rw [if_pos (by rfl)]
            refine wp_store_mid 37 _ _ rfl X29 0 _ rfl rfl (hX.zthere (length_distL lk la)) (HI1.out) (HO1.out) ?_
            refine hK.out _ _ (hHeld.put X29 (by omega) _) (fun hHeld2 => ?_)
            have hX2 := hX.zput (length_distL lk la)
            have hY2 : At (V29.setCells X29 0 (idV (distL lk la)).toArray.toList) Y26 zeroA 37 := hY.of_heap (heap_setCells_other _ _ (fun e => hXY e.symm) _ _ _)
            generalize V29.setCells X29 0 (idV (distL lk la)).toArray.toList = U at *
            clear hK K hHeld hX hY
            refine wpAnyH_ready (rs := [9]) (by kernel_rfl) (by simp) ?_
            refine AllReadyH.cons rfl (fun K hK => ?_) AllReadyH.nil
            rw [if_pos (by rfl)]
            refine wp_store_mid 37 _ _ rfl Y26 0 _ rfl rfl (hY2.zthere (length_distL lk lb)) (HI2.out) (HO2.out) ?_
            refine hK.out _ _ (hHeld2.put Y26 (by omega) _) (fun hHeld3 => ?_)
            have hY3 := hY2.zput (length_distL lk lb)
            have hX3 : At (U.setCells Y26 0 (idV (distL lk lb)).toArray.toList) X29 (idV (distL lk la)).toArray 37 := hX2.of_heap (heap_setCells_other _ _ hXY _ _ _)
            generalize U.setCells Y26 0 (idV (distL lk lb)).toArray.toList = U2 at *
            clear hK K hHeld2 hX2 hY2
            refine wpAnyH_done (by kernel_rfl) ?_ _
            go_wp2_with fail
            go_meet
            exact ⟨X29, Y26, rfl, rfl, hHeld3, hX3, hY3⟩
        · go_simp
          refine hK.out _ _ (hHeld.step ((Gr.refl _).alloc _)) (fun hHeld2 => ?_)
          obtain ⟨X30, hXe⟩ : ∃ q, q = V27.heap.size := ⟨_, rfl⟩
          have hXl : S + 1 + 1 < X30 := by rw [hXe, ← hS]; exact hHeld.hC.lt
          have hX : At (V27.alloc (.cells zeroA 37)) X30 zeroA 37 := by rw [hXe]; exact At.new _ _ _
          have hXY : X30 ≠ Y26 := by have := hY.lt; omega
          replace hY := hY.alloc (.cells zeroA 37)
          rw [← hXe, ← HZ.out]
          rw [← HZ.out] at hHeld2
          generalize V27.alloc (.cells zeroA 37) = V30 at *
          clear hHeld hK K hXe
          have hHeld := hHeld2
          clear hHeld2
          refine wpAnyH_ready (rs := [5]) (by kernel_rfl) (by simp) ?_
          refine (AllReadyH.cons rfl (fun K hK => ?_) AllReadyH.nil)
          · go_simp
            go_at_call 16
            refine (Hs2.out _).mono ?_
            rintro e V31 ⟨rfl, hg⟩
            refine hK.out _ _ (hHeld.step hg) (fun hHeld2 => ?_)
            clear hHeld hK K
            have hHeld := hHeld2
            clear hHeld2
            replace hX := hX.gr hg
            replace hY := hY.gr hg
            clear hg
            refine wpAnyH_ready (rs := [8]) (by kernel_rfl) (by simp) ?_
            refine AllReadyH.cons rfl (fun K hK => ?_) AllReadyH.nil
            rw [if_pos (by rfl)]
            refine wp_store_mid 37 _ _ rfl X30 0 _ rfl rfl (hX.zthere (length_distL lk la)) (HI1.out) (HO1.out) ?_
            refine hK.out _ _ (hHeld.put X30 (by omega) _) (fun hHeld2 => ?_)
            have hX2 := hX.zput (length_distL lk la)
            have hY2 : At (V31.setCells X30 0 (idV (distL lk la)).toArray.toList) Y26 zeroA 37 := hY.of_heap (heap_setCells_other _ _ (fun e => hXY e.symm) _ _ _)
            generalize V31.setCells X30 0 (idV (distL lk la)).toArray.toList = U at *
            clear hK K hHeld hX hY
            refine wpAnyH_ready (rs := [9]) (by kernel_rfl) (by simp) ?_
            refine AllReadyH.cons rfl (fun K hK => ?_) AllReadyH.nil
            rw [if_pos (by rfl)]
            refine wp_store_mid 37 _ _ rfl Y26 0 _ rfl rfl (hY2.zthere (length_distL lk lb)) (HI2.out) (HO2.out) ?_
            refine hK.out _ _ (hHeld2.put Y26 (by omega) _) (fun hHeld3 => ?_)
            have hY3 := hY2.zput (length_distL lk lb)
            have hX3 : At (U.setCells Y26 0 (idV (distL lk lb)).toArray.toList) X30 (idV (distL lk la)).toArray 37 := hX2.of_heap (heap_setCells_other _ _ hXY _ _ _)
            generalize U.setCells Y26 0 (idV (distL lk lb)).toArray.toList = U2 at *
            clear hK K hHeld2 hX2 hY2
            refine wpAnyH_done (by kernel_rfl) ?_ _
            go_wp2_with fail
            go_meet
            exact ⟨X30, Y26, rfl, rfl, hHeld3, hX3, hY3⟩
      · go_simp
        refine hK.out _ _ (hHeld.step ((Gr.refl _).alloc _)) (fun hHeld2 => ?_)
        obtain ⟨X32, hXe⟩ : ∃ q, q = V26.heap.size := ⟨_, rfl⟩
        have hXl : S + 1 + 1 < X32 := by rw [hXe, ← hS]; exact hHeld.hC.lt
        have hX : At (V26.alloc (.cells zeroA 37)) X32 zeroA 37 := by rw [hXe]; exact At.new _ _ _
        have hXY : X32 ≠ Y26 := by have := hY.lt; omega
        replace hY := hY.alloc (.cells zeroA 37)
        rw [← hXe, ← HZ.out]
        rw [← HZ.out] at hHeld2
        generalize V26.alloc (.cells zeroA 37) = V32 at *
        clear hHeld hK K hXe
        have hHeld := hHeld2
        clear hHeld2
        refine wpAnyH_ready (rs := [2]) (by kernel_rfl) (by simp) ?_
        refine (AllReadyH.cons rfl (fun K hK => ?_) AllReadyH.nil)
        · go_simp
          go_at_call 16
          refine (Hs1.out _).mono ?_
          rintro e V33 ⟨rfl, hg⟩
          refine hK.out _ _ (hHeld.step hg) (fun hHeld2 => ?_)
          clear hHeld hK K
          have hHeld := hHeld2
          clear hHeld2
          replace hX := hX.gr hg
          replace hY := hY.gr hg
          clear hg
          refine wpAnyH_ready (rs := [5]) (by kernel_rfl) (by simp) ?_
          refine (AllReadyH.cons rfl (fun K hK => ?_) AllReadyH.nil)
          · go_simp
            go_at_call 16
            refine (Hs2.out _).mono ?_
            rintro e V34 ⟨rfl, hg⟩
            refine hK.out _ _ (hHeld.step hg) (fun hHeld2 => ?_)
            clear hHeld hK K
            have hHeld := hHeld2
            clear hHeld2
            replace hX := hX.gr hg
            replace hY := hY.gr hg
            clear hg
            refine wpAnyH_ready (rs := [8]) (by kernel_rfl) (by simp) ?_
            refine AllReadyH.cons rfl (fun K hK => ?_) AllReadyH.nil
            rw [if_pos (by rfl)]
            refine wp_store_mid 37 _ _ rfl X32 0 _ rfl rfl (hX.zthere (length_distL lk la)) (HI1.out) (HO1.out) ?_
            refine hK.out _ _ (hHeld.put X32 (by omega) _) (fun hHeld2 => ?_)
            have hX2 := hX.zput (length_distL lk la)
            have hY2 : At (V34.setCells X32 0 (idV (distL lk la)).toArray.toList) Y26 zeroA 37 := hY.of_heap (heap_setCells_other _ _ (fun e => hXY e.symm) _ _ _)
            generalize V34.setCells X32 0 (idV (distL lk la)).toArray.toList = U at *
            clear hK K hHeld hX hY
            refine wpAnyH_ready (rs := [9]) (by kernel_rfl) (by simp) ?_
            refine AllReadyH.cons rfl (fun K hK => ?_) AllReadyH.nil
            rw [if_pos (by rfl)]
            refine wp_store_mid 37 _ _ rfl Y26 0 _ rfl rfl (hY2.zthere (length_distL lk lb)) (HI2.out) (HO2.out) ?_
            refine hK.out _ _ (hHeld2.put Y26 (by omega) _) (fun hHeld3 => ?_)
            have hY3 := hY2.zput (length_distL lk lb)
            have hX3 : At (U.setCells Y26 0 (idV (distL lk lb)).toArray.toList) X32 (idV (distL lk la)).toArray 37 := hX2.of_heap (heap_setCells_other _ _ hXY _ _ _)
            generalize U.setCells Y26 0 (idV (distL lk lb)).toArray.toList = U2 at *
            clear hK K hHeld2 hX2 hY2
            refine wpAnyH_done (by kernel_rfl) ?_ _
            go_wp2_with fail
            go_meet
            exact ⟨X32, Y26, rfl, rfl, hHeld3, hX3, hY3⟩
  case rest =>
    obtain ⟨X, Y, rfl, rfl, N, aX, aY⟩ := hcut
    have LX := hide (idload aX.all (length_distL lk la))
    have LY := hide (idload aY.all (length_distL lk lb))
    have HC := hide (cmp_grown wc (distL lk la) (distL lk lb) (length_distL lk la) (length_distL lk lb))
    have HX := hide (And.intro aX (And.intro aY N))
    clear aX aY N J
    go_wp2_with (first | refine wpList_load_run rfl 37 _ rfl Y 0 rfl _ LY.out ?_ | refine wpList_load_run rfl 37 _ rfl X 0 rfl _ LX.out ?_)
    refine HC.out.mono ?_
    rintro e w2 ⟨rfl, hg0⟩
    have hg : Gr wc w2 := hg0
    obtain ⟨aX, aY, N⟩ := HX.out
    replace aX := aX.gr hg
    replace N := N.step hg
    have hcl := cmp_lt (distL lk la) (distL lk lb) ((length_distL lk la).trans (length_distL lk lb).symm)
    have hcz := cmp_zero (distL lk la) (distL lk lb) ((length_distL lk la).trans (length_distL lk lb).symm)
    generalize Lib.compareBytes (distL lk la) (distL lk lb) = y at *
    have HN := hide N
    have HaX := hide aX
    clear hg0 hg aX aY N HX HC LX LY wc
    by_cases hy : y = 0
    · have LK := hide (fun k os => idload (((HN.out.step ((Gr.refl w2).grown k os)).hA).all) hlk)
      have LA := hide (fun k os => idload (((HN.out.step ((Gr.refl w2).grown k os)).hB).all) hla)
      have LB := hide (fun k os => idload (((HN.out.step ((Gr.refl w2).grown k os)).hC).all) hlb)
      have LX := hide (fun k os => idload ((HaX.out.gr ((Gr.refl w2).grown k os)).all) (length_distL lk la))
      rw [hS] at LK LA LB
      have hgd : Yba.prog.eqGuardType Yba.prog.depth 37 = false := by kernel_rfl
      have hq1 := run_eqIds la lb hla hlb
      have hq2 := run_eqIds (subL la lk) (distL lk la) (length_subL la lk) (length_distL lk la)
      have hsb := hide (fun k os => sub_calls (grow (w2.drewN k) os) la lk hla hlk)
      have hE0 : nearL lk la lb = (decide (la ≠ lb) && decide (subL la lk = distL lk la)) := by unfold nearL; rw [if_pos (hcz.1 hy)]
      subst hy
      clear hcl hcz
      by_cases hab : la = lb
      · have HE := hide (show nearL lk la lb = false by rw [hE0]; simp [hab])
        have hd : decide (la = lb) = true := decide_eq_true hab
        rw [hd] at hq1
        clear hE0 hd hab hq2
        go_wp2_with fail
        refine wp_region_quiet_grown (by assumption) (by kernel_rfl) ?_
        refine wpQuiet_load_mid rfl 37 _ rfl _ _ rfl _ (fun w' hw' => by obtain ⟨p, rfl⟩ := hw'; exact LA.out _ _) ?_
        refine wpQuiet_load_mid rfl 37 _ rfl _ _ rfl _ (fun w' hw' => by obtain ⟨p, rfl⟩ := hw'; exact LB.out _ _) ?_
        iterate 2 quiet_step (fail)
        iterate 5 go_big_quiet_skip
        repeat (quiet_step (fail))
        refine wpQuiet_nil ?_
        intro _ hw'
        obtain ⟨⟨nq, osq⟩, hw''⟩ := hw'
        subst hw''
        have hgr := HN.out.gr.grown nq osq
        go_wp2
        go_ret
        exact ⟨by rw [HE.out]; rfl, hgr⟩
      · obtain ⟨bb, hbb⟩ : ∃ bb, decide (subL la lk = distL lk la) = bb := ⟨_, rfl⟩
        have HE := hide (show nearL lk la lb = bb by rw [hE0, hbb]; simp [hab])
        have hd : decide (la = lb) = false := decide_eq_false hab
        rw [hd] at hq1
        clear hE0 hd hab hq2
        go_wp2_with fail
        refine wp_region_quiet_grown (by assumption) (by kernel_rfl) ?_
        refine wpQuiet_load_mid rfl 37 _ rfl _ _ rfl _ (fun w' hw' => by obtain ⟨p, rfl⟩ := hw'; exact LA.out _ _) ?_
        refine wpQuiet_load_mid rfl 37 _ rfl _ _ rfl _ (fun w' hw' => by obtain ⟨p, rfl⟩ := hw'; exact LB.out _ _) ?_
        iterate 2 quiet_step (fail)
        go_big_quiet_want
        refine quiet_load_run 37 _ rfl _ _ rfl _ (fun w' hw' => by obtain ⟨p, rfl⟩ := hw'; exact LA.out _ _) ?_
        simp only [Act.put, List.setIfInBounds_toArray, List.set_cons_zero, List.set_cons_succ]
        go_big_quiet_on
        go_big_quiet_want
        refine quiet_load_run 37 _ rfl _ _ rfl _ (fun w' hw' => by obtain ⟨p, rfl⟩ := hw'; exact LK.out _ _) ?_
        simp only [Act.put, List.setIfInBounds_toArray, List.set_cons_zero, List.set_cons_succ]
        go_big_quiet_on
        quiet_step ((go_at_call 33; refine Calls.grown_of' (hsb.out _ _)))
        go_big_quiet_want
        refine quiet_load_run 37 _ rfl _ _ rfl _ (fun w' hw' => by obtain ⟨p, rfl⟩ := hw'; exact LX.out _ _) ?_
        simp only [Act.put, List.setIfInBounds_toArray, List.set_cons_zero, List.set_cons_succ]
        go_big_quiet_on
        go_big_quiet_want
        refine quiet_eql37 _ _ rfl (subL la lk) (distL lk la) rfl rfl (length_subL la lk) (length_distL lk la) ?_
        rw [hbb]
        simp only [Act.put, List.setIfInBounds_toArray, List.set_cons_zero, List.set_cons_succ]
        go_big_quiet_on
        repeat (quiet_step (fail))
        refine wpQuiet_nil ?_
        intro _ hw'
        obtain ⟨⟨nq, osq⟩, hw''⟩ := hw'
        subst hw''
        have hgr := HN.out.gr.grown nq osq
        go_wp2
        go_ret
        exact ⟨by rw [HE.out]; rfl, hgr⟩
    · have HE : Hid (nearL lk la lb = decide (y < 0)) := by
        unfold nearL
        rw [if_neg (fun h => hy (hcz.2 h))]
        exact decide_eq_decide.2 hcl.symm
      have hyd : (y != 0) = true := by simpa using hy
      clear hcl hcz
      go_wp2
      go_ret
      exact ⟨by rw [HE.out]; rfl, HN.out.gr⟩
end Go.Proofs.Ybulkapqu
