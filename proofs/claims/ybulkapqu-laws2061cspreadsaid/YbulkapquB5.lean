import Derived.Test.YbulkapquB4
import Derived.Deep.DeepCutAuto
namespace Go.Proofs.Ybulkapqu
open Go.RowKit Go.Sort

def zeroA : Array Value := (idV (List.replicate 20 0)).toArray
def distL (la lb : List UInt8) : List UInt8 := if Lib.beNat (subL lb la) < Lib.beNat (subL la lb) then subL lb la else subL la lb
theorem length_distL (la lb : List UInt8) : (distL la lb).length = 20 := by unfold distL; split <;> exact length_subL _ _

structure DSt (w : World) (la lb : List UInt8) (W : World) : Prop where
  gr : Gr w W
  hA : At W w.heap.size (idV la).toArray 37
  hB : At W (w.heap.size + 1) (idV lb).toArray 37
  hR : At W (w.heap.size + 1 + 1) zeroA 37
theorem DSt.step {w : World} {la lb : List UInt8} {W W' : World} (h : DSt w la lb W) (g : Gr W W') : DSt w la lb W' := ⟨h.gr.trans g, h.hA.gr g, h.hB.gr g, h.hR.gr g⟩
theorem dSt_start (w : World) (la lb : List UInt8) : DSt w la lb (((w.alloc (.cells (idV la).toArray 37)).alloc (.cells (idV lb).toArray 37)).alloc (.cells zeroA 37)) := by
  refine ⟨(((Gr.refl w).alloc _).alloc _).alloc _, ((At.new w _ _).alloc _).alloc _, ?_, ?_⟩
  · have := At.new (w.alloc (.cells (idV la).toArray 37)) (idV lb).toArray 37
    rw [World.size_alloc] at this
    exact this.alloc _
  · have := At.new ((w.alloc (.cells (idV la).toArray 37)).alloc (.cells (idV lb).toArray 37)) zeroA 37
    rw [World.size_alloc, World.size_alloc] at this
    exact this
/-- The same, and the two loads. -/
def DSt3 (w : World) (la lb : List UInt8) (W : World) : Prop := W.rangeAt w.heap.size 0 (idV la) ∧ W.rangeAt (w.heap.size + 1) 0 (idV lb) ∧ DSt w la lb W
theorem At.all {w : World} {b : Nat} {l : List UInt8} {t : TypeId} (h : At w b (idV l).toArray t) : w.rangeAt b 0 (idV l) := fun j v hv => by
  rw [h.cell, Nat.zero_add]
  simpa using hv
theorem DSt.all {w : World} {la lb : List UInt8} {W : World} (h : DSt w la lb W) : W.rangeAt w.heap.size 0 (idV la) ∧ W.rangeAt (w.heap.size + 1) 0 (idV lb) ∧ DSt w la lb W := ⟨h.hA.all, h.hB.all, h⟩

theorem At.zthere {w : World} {b : Nat} {t : TypeId} (h : At w b zeroA t) {l : List UInt8} (hl : l.length = 20) : w.there b 0 (idV l).toArray.size := by
  have := At.there (l := idV (List.replicate 20 0)) h 0 20 (by simp [idV])
  have e : (idV l).toArray.size = 20 := by simp [length_idV, hl]
  rw [e]
  exact this
theorem At.zput {w : World} {b : Nat} {t : TypeId} (h : At w b zeroA t) {l : List UInt8} (hl : l.length = 20) : At (w.setCells b 0 (idV l).toArray.toList) b (idV l).toArray t := by
  have := At.setCells (idV l) 0 w (idV (List.replicate 20 0)) h (by simp [idV, hl])
  rw [List.take_zero, List.nil_append, List.drop_eq_nil_of_le (by simp [length_idV, hl]), List.append_nil] at this
  exact this
theorem DSt.put {w : World} {la lb : List UInt8} {W : World} (h : DSt w la lb W) (X : Nat) (hX : w.heap.size + 1 + 1 < X) (vs : List Value) : DSt w la lb (W.setCells X 0 vs) :=
  ⟨Gr.setCells X (by omega) _ _ _ h.gr, h.hA.of_heap (heap_setCells_other _ _ (by omega) _ _ _), h.hB.of_heap (heap_setCells_other _ _ (by omega) _ _ _), h.hR.of_heap (heap_setCells_other _ _ (by omega) _ _ _)⟩
theorem id_one (l : List UInt8) : (idV l).toArray.all (·.oneCell') = true := all_oneCell_toArray (by intro v hv; simp only [idV, List.mem_map] at hv; obtain ⟨b, _, rfl⟩ := hv; rfl)
theorem id_info {l : List UInt8} (hl : l.length = 20) : (Yba.prog.info? 37).map (·.size) = some (idV l).toArray.size := by
  have e : (idV l).toArray.size = 20 := by simp [length_idV, hl]
  have h : (Yba.prog.info? 37).map (·.size) = some 20 := by kernel_rfl
  rw [e, h]

set_option maxHeartbeats 4000000 in
set_option maxRecDepth 1000000 in
theorem dist_calls (w : World) (la lb : List UInt8) (hla : la.length = 20) (hlb : lb.length = 20) :
    Calls Yba.prog 16 #[.agg (idV la).toArray, .agg (idV lb).toArray] w fun e w' => e = .returned (.agg (idV (distL la lb)).toArray) ∧ Gr w w' := by
  have mixed : Yba.prog.follows .mixedOrders = true := by kernel_rfl
  have HI := hide (dSt_start w la lb)
  have hz : zeroA = #[.int .u8 0, .int .u8 0, .int .u8 0, .int .u8 0, .int .u8 0, .int .u8 0, .int .u8 0, .int .u8 0, .int .u8 0, .int .u8 0, .int .u8 0, .int .u8 0, .int .u8 0, .int .u8 0, .int .u8 0, .int .u8 0, .int .u8 0, .int .u8 0, .int .u8 0, .int .u8 0] := rfl
  have HZ := hide hz
  have hu37 : Yba.prog.underlying 37 = some (.array 20 5) := by kernel_rfl
  have hia : (Yba.prog.info? 37).map (·.size) = some (idV la).length := by rw [length_idV, hla]; kernel_rfl
  have hib : (Yba.prog.info? 37).map (·.size) = some (idV lb).length := by rw [length_idV, hlb]; kernel_rfl
  have hs1 := fun W => sub_calls W la lb hla hlb
  have hs2 := fun W => sub_calls W lb la hlb hla
  have HI1 := hide (id_info (length_subL la lb))
  have HI2 := hide (id_info (length_subL lb la))
  have HO1 := hide (id_one (subL la lb))
  have HO2 := hide (id_one (subL lb la))
  have Hs1 := hide hs1
  have Hs2 := hide hs2
  clear hs1 hs2 hz
  go_enter Yba.func16, Yba.ntmps16
  go_upto_region 1 with fail
  rw [← HZ.out]
  have J := HI.out
  clear HI
  generalize (((w.alloc (.cells (idV la).toArray 37)).alloc (.cells (idV lb).toArray 37)).alloc (.cells zeroA 37)) = W1 at J ⊢
  generalize hS : w.heap.size = S at *
  go_cut [5, 6] (fun s5 s6 wx => ∃ X Y : Nat, s5 = .pointer (some ⟨X, 0, none⟩) ∧ s6 = .pointer (some ⟨Y, 0, none⟩) ∧ Gr w wx ∧ At wx (S + 1 + 1) zeroA 37 ∧ At wx X (idV (subL la lb)).toArray 37 ∧ At wx Y (idV (subL lb la)).toArray 37)
  case first =>
    refine wp_region_held_drew (S := DSt w la lb) (by kernel_rfl) (J.step ((Gr.refl W1).drew)) (fun hHeld => ?_)
    refine wpAnyH_take (i := 0) (v := _) rfl (by kernel_rfl) (by kernel_rfl) (by kernel_rfl) (fun _ _ _ h => h) (yieldsIf_load_mid (by rfl) 37 _ rfl S 0 rfl (idV la) _ (fun W h => hS ▸ h.hA.all) hu37 rfl hia) (by assumption) ?_
    refine wpAnyH_take (i := 1) (v := _) rfl (by kernel_rfl) (by kernel_rfl) (by kernel_rfl) (fun _ _ _ h => h) (yieldsIf_load_mid (by rfl) 37 _ rfl (S + 1) 0 rfl (idV lb) _ (fun W h => hS ▸ h.hB.all) hu37 rfl hib) (by assumption) ?_
    refine wpAnyH_take (i := 3) (v := _) rfl (by kernel_rfl) (by kernel_rfl) (by kernel_rfl) (fun _ _ _ h => h) (yieldsIf_load_mid (by rfl) 37 _ rfl (S + 1) 0 rfl (idV lb) _ (fun W h => hS ▸ h.hB.all) hu37 rfl hib) (by assumption) ?_
    refine wpAnyH_take (i := 4) (v := _) rfl (by kernel_rfl) (by kernel_rfl) (by kernel_rfl) (fun _ _ _ h => h) (yieldsIf_load_mid (by rfl) 37 _ rfl S 0 rfl (idV la) _ (fun W h => hS ▸ h.hA.all) hu37 rfl hia) (by assumption) ?_
    change wpAnyH Yba.prog _ _ _ _ _ _ { tmps := #[.agg (idV la).toArray, .agg (idV lb).toArray, .pointer (some ⟨S, 0, none⟩), .pointer (some ⟨S + 1, 0, none⟩), .pointer (some ⟨S + 1 + 1, 0, none⟩), undef, undef, .agg (idV la).toArray, .agg (idV lb).toArray, undef, .agg (idV lb).toArray, .agg (idV la).toArray, undef, undef, undef, undef, undef, undef, undef], defers := [] } _
    generalize W1.drew = V0 at hHeld ⊢
    clear J
    refine wpAnyH_ready (rs := [2, 6, 7]) (by kernel_rfl) (by simp) ?_
    refine (AllReadyH.cons rfl (fun K hK => ?_) (AllReadyH.cons rfl (fun K hK => ?_) (AllReadyH.cons rfl (fun K hK => ?_) AllReadyH.nil)))
    · go_simp
      go_at_call 33
      refine (Hs1.out _).mono ?_
      rintro e V1 ⟨rfl, hg⟩
      refine hK.out _ _ (hHeld.step hg) (fun hHeld2 => ?_)
      clear hHeld hK K
      have hHeld := hHeld2
      clear hHeld2
      clear hg
      refine wpAnyH_ready (rs := [5, 6, 7]) (by kernel_rfl) (by simp) ?_
      refine (AllReadyH.cons rfl (fun K hK => ?_) (AllReadyH.cons rfl (fun K hK => ?_) (AllReadyH.cons rfl (fun K hK => ?_) AllReadyH.nil)))
      · go_simp
        go_at_call 33
        refine (Hs2.out _).mono ?_
        rintro e V2 ⟨rfl, hg⟩
        refine hK.out _ _ (hHeld.step hg) (fun hHeld2 => ?_)
        clear hHeld hK K
        have hHeld := hHeld2
        clear hHeld2
        clear hg
        refine wpAnyH_ready (rs := [6, 7]) (by kernel_rfl) (by simp) ?_
        refine (AllReadyH.cons rfl (fun K hK => ?_) (AllReadyH.cons rfl (fun K hK => ?_) AllReadyH.nil))
        · go_simp
          refine hK.out _ _ (hHeld.step ((Gr.refl _).alloc _)) (fun hHeld2 => ?_)
          obtain ⟨X3, hXe⟩ : ∃ q, q = V2.heap.size := ⟨_, rfl⟩
          have hXl : S + 1 + 1 < X3 := by rw [hXe, ← hS]; exact hHeld.hR.lt
          have hX : At (V2.alloc (.cells zeroA 37)) X3 zeroA 37 := by rw [hXe]; exact At.new _ _ _
          rw [← hXe, ← HZ.out]
          rw [← HZ.out] at hHeld2
          generalize V2.alloc (.cells zeroA 37) = V3 at *
          clear hHeld hK K hXe
          have hHeld := hHeld2
          clear hHeld2
          refine wpAnyH_ready (rs := [7]) (by kernel_rfl) (by simp) ?_
          refine (AllReadyH.cons rfl (fun K hK => ?_) AllReadyH.nil)
          · go_simp
            refine hK.out _ _ (hHeld.step ((Gr.refl _).alloc _)) (fun hHeld2 => ?_)
            obtain ⟨Y4, hYe⟩ : ∃ q, q = V3.heap.size := ⟨_, rfl⟩
            have hYl : S + 1 + 1 < Y4 := by rw [hYe, ← hS]; exact hHeld.hR.lt
            have hY : At (V3.alloc (.cells zeroA 37)) Y4 zeroA 37 := by rw [hYe]; exact At.new _ _ _
            have hXY : X3 ≠ Y4 := by have := hX.lt; omega
            replace hX := hX.alloc (.cells zeroA 37)
            rw [← hYe, ← HZ.out]
            rw [← HZ.out] at hHeld2
            generalize V3.alloc (.cells zeroA 37) = V4 at *
            clear hHeld hK K hYe
            have hHeld := hHeld2
            clear hHeld2
            refine wpAnyH_ready (rs := [8]) (by kernel_rfl) (by simp) ?_
            refine AllReadyH.cons rfl (fun K hK => ?_) AllReadyH.nil
            rw [if_pos (by rfl)]
            refine wp_store_mid 37 _ _ rfl X3 0 _ rfl rfl (hX.zthere (length_subL la lb)) (HI1.out) (HO1.out) ?_
            refine hK.out _ _ (hHeld.put X3 (by omega) _) (fun hHeld2 => ?_)
            have hX2 := hX.zput (length_subL la lb)
            have hY2 : At (V4.setCells X3 0 (idV (subL la lb)).toArray.toList) Y4 zeroA 37 := hY.of_heap (heap_setCells_other _ _ (fun e => hXY e.symm) _ _ _)
            generalize V4.setCells X3 0 (idV (subL la lb)).toArray.toList = U at *
            clear hK K hHeld hX hY
            refine wpAnyH_ready (rs := [9]) (by kernel_rfl) (by simp) ?_
            refine AllReadyH.cons rfl (fun K hK => ?_) AllReadyH.nil
            rw [if_pos (by rfl)]
            refine wp_store_mid 37 _ _ rfl Y4 0 _ rfl rfl (hY2.zthere (length_subL lb la)) (HI2.out) (HO2.out) ?_
            refine hK.out _ _ (hHeld2.put Y4 (by omega) _) (fun hHeld3 => ?_)
            have hY3 := hY2.zput (length_subL lb la)
            have hX3 : At (U.setCells Y4 0 (idV (subL lb la)).toArray.toList) X3 (idV (subL la lb)).toArray 37 := hX2.of_heap (heap_setCells_other _ _ hXY _ _ _)
            generalize U.setCells Y4 0 (idV (subL lb la)).toArray.toList = U2 at *
            clear hK K hHeld2 hX2 hY2
            refine wpAnyH_done (by kernel_rfl) ?_ _
            go_wp2_with fail
            go_meet
            exact ⟨X3, Y4, rfl, rfl, hHeld3.gr, hS ▸ hHeld3.hR, hX3, hY3⟩
        · go_simp
          refine hK.out _ _ (hHeld.step ((Gr.refl _).alloc _)) (fun hHeld2 => ?_)
          obtain ⟨Y5, hYe⟩ : ∃ q, q = V2.heap.size := ⟨_, rfl⟩
          have hYl : S + 1 + 1 < Y5 := by rw [hYe, ← hS]; exact hHeld.hR.lt
          have hY : At (V2.alloc (.cells zeroA 37)) Y5 zeroA 37 := by rw [hYe]; exact At.new _ _ _
          rw [← hYe, ← HZ.out]
          rw [← HZ.out] at hHeld2
          generalize V2.alloc (.cells zeroA 37) = V5 at *
          clear hHeld hK K hYe
          have hHeld := hHeld2
          clear hHeld2
          refine wpAnyH_ready (rs := [6]) (by kernel_rfl) (by simp) ?_
          refine (AllReadyH.cons rfl (fun K hK => ?_) AllReadyH.nil)
          · go_simp
            refine hK.out _ _ (hHeld.step ((Gr.refl _).alloc _)) (fun hHeld2 => ?_)
            obtain ⟨X6, hXe⟩ : ∃ q, q = V5.heap.size := ⟨_, rfl⟩
            have hXl : S + 1 + 1 < X6 := by rw [hXe, ← hS]; exact hHeld.hR.lt
            have hX : At (V5.alloc (.cells zeroA 37)) X6 zeroA 37 := by rw [hXe]; exact At.new _ _ _
            have hXY : X6 ≠ Y5 := by have := hY.lt; omega
            replace hY := hY.alloc (.cells zeroA 37)
            rw [← hXe, ← HZ.out]
            rw [← HZ.out] at hHeld2
            generalize V5.alloc (.cells zeroA 37) = V6 at *
            clear hHeld hK K hXe
            have hHeld := hHeld2
            clear hHeld2
            refine wpAnyH_ready (rs := [8]) (by kernel_rfl) (by simp) ?_
            refine AllReadyH.cons rfl (fun K hK => ?_) AllReadyH.nil
            rw [if_pos (by rfl)]
            refine wp_store_mid 37 _ _ rfl X6 0 _ rfl rfl (hX.zthere (length_subL la lb)) (HI1.out) (HO1.out) ?_
            refine hK.out _ _ (hHeld.put X6 (by omega) _) (fun hHeld2 => ?_)
            have hX2 := hX.zput (length_subL la lb)
            have hY2 : At (V6.setCells X6 0 (idV (subL la lb)).toArray.toList) Y5 zeroA 37 := hY.of_heap (heap_setCells_other _ _ (fun e => hXY e.symm) _ _ _)
            generalize V6.setCells X6 0 (idV (subL la lb)).toArray.toList = U at *
            clear hK K hHeld hX hY
            refine wpAnyH_ready (rs := [9]) (by kernel_rfl) (by simp) ?_
            refine AllReadyH.cons rfl (fun K hK => ?_) AllReadyH.nil
            rw [if_pos (by rfl)]
            refine wp_store_mid 37 _ _ rfl Y5 0 _ rfl rfl (hY2.zthere (length_subL lb la)) (HI2.out) (HO2.out) ?_
            refine hK.out _ _ (hHeld2.put Y5 (by omega) _) (fun hHeld3 => ?_)
            have hY3 := hY2.zput (length_subL lb la)
            have hX3 : At (U.setCells Y5 0 (idV (subL lb la)).toArray.toList) X6 (idV (subL la lb)).toArray 37 := hX2.of_heap (heap_setCells_other _ _ hXY _ _ _)
            generalize U.setCells Y5 0 (idV (subL lb la)).toArray.toList = U2 at *
            clear hK K hHeld2 hX2 hY2
            refine wpAnyH_done (by kernel_rfl) ?_ _
            go_wp2_with fail
            go_meet
            exact ⟨X6, Y5, rfl, rfl, hHeld3.gr, hS ▸ hHeld3.hR, hX3, hY3⟩
      · go_simp
        refine hK.out _ _ (hHeld.step ((Gr.refl _).alloc _)) (fun hHeld2 => ?_)
        obtain ⟨X7, hXe⟩ : ∃ q, q = V1.heap.size := ⟨_, rfl⟩
        have hXl : S + 1 + 1 < X7 := by rw [hXe, ← hS]; exact hHeld.hR.lt
        have hX : At (V1.alloc (.cells zeroA 37)) X7 zeroA 37 := by rw [hXe]; exact At.new _ _ _
        rw [← hXe, ← HZ.out]
        rw [← HZ.out] at hHeld2
        generalize V1.alloc (.cells zeroA 37) = V7 at *
        clear hHeld hK K hXe
        have hHeld := hHeld2
        clear hHeld2
        refine wpAnyH_ready (rs := [5, 7]) (by kernel_rfl) (by simp) ?_
        refine (AllReadyH.cons rfl (fun K hK => ?_) (AllReadyH.cons rfl (fun K hK => ?_) AllReadyH.nil))
        · go_simp
          go_at_call 33
          refine (Hs2.out _).mono ?_
          rintro e V8 ⟨rfl, hg⟩
          refine hK.out _ _ (hHeld.step hg) (fun hHeld2 => ?_)
          clear hHeld hK K
          have hHeld := hHeld2
          clear hHeld2
          replace hX := hX.gr hg
          clear hg
          refine wpAnyH_ready (rs := [7]) (by kernel_rfl) (by simp) ?_
          refine (AllReadyH.cons rfl (fun K hK => ?_) AllReadyH.nil)
          · go_simp
            refine hK.out _ _ (hHeld.step ((Gr.refl _).alloc _)) (fun hHeld2 => ?_)
            obtain ⟨Y9, hYe⟩ : ∃ q, q = V8.heap.size := ⟨_, rfl⟩
            have hYl : S + 1 + 1 < Y9 := by rw [hYe, ← hS]; exact hHeld.hR.lt
            have hY : At (V8.alloc (.cells zeroA 37)) Y9 zeroA 37 := by rw [hYe]; exact At.new _ _ _
            have hXY : X7 ≠ Y9 := by have := hX.lt; omega
            replace hX := hX.alloc (.cells zeroA 37)
            rw [← hYe, ← HZ.out]
            rw [← HZ.out] at hHeld2
            generalize V8.alloc (.cells zeroA 37) = V9 at *
            clear hHeld hK K hYe
            have hHeld := hHeld2
            clear hHeld2
            refine wpAnyH_ready (rs := [8]) (by kernel_rfl) (by simp) ?_
            refine AllReadyH.cons rfl (fun K hK => ?_) AllReadyH.nil
            rw [if_pos (by rfl)]
            refine wp_store_mid 37 _ _ rfl X7 0 _ rfl rfl (hX.zthere (length_subL la lb)) (HI1.out) (HO1.out) ?_
            refine hK.out _ _ (hHeld.put X7 (by omega) _) (fun hHeld2 => ?_)
            have hX2 := hX.zput (length_subL la lb)
            have hY2 : At (V9.setCells X7 0 (idV (subL la lb)).toArray.toList) Y9 zeroA 37 := hY.of_heap (heap_setCells_other _ _ (fun e => hXY e.symm) _ _ _)
            generalize V9.setCells X7 0 (idV (subL la lb)).toArray.toList = U at *
            clear hK K hHeld hX hY
            refine wpAnyH_ready (rs := [9]) (by kernel_rfl) (by simp) ?_
            refine AllReadyH.cons rfl (fun K hK => ?_) AllReadyH.nil
            rw [if_pos (by rfl)]
            refine wp_store_mid 37 _ _ rfl Y9 0 _ rfl rfl (hY2.zthere (length_subL lb la)) (HI2.out) (HO2.out) ?_
            refine hK.out _ _ (hHeld2.put Y9 (by omega) _) (fun hHeld3 => ?_)
            have hY3 := hY2.zput (length_subL lb la)
            have hX3 : At (U.setCells Y9 0 (idV (subL lb la)).toArray.toList) X7 (idV (subL la lb)).toArray 37 := hX2.of_heap (heap_setCells_other _ _ hXY _ _ _)
            generalize U.setCells Y9 0 (idV (subL lb la)).toArray.toList = U2 at *
            clear hK K hHeld2 hX2 hY2
            refine wpAnyH_done (by kernel_rfl) ?_ _
            go_wp2_with fail
            go_meet
            exact ⟨X7, Y9, rfl, rfl, hHeld3.gr, hS ▸ hHeld3.hR, hX3, hY3⟩
        · go_simp
          refine hK.out _ _ (hHeld.step ((Gr.refl _).alloc _)) (fun hHeld2 => ?_)
          obtain ⟨Y10, hYe⟩ : ∃ q, q = V7.heap.size := ⟨_, rfl⟩
          have hYl : S + 1 + 1 < Y10 := by rw [hYe, ← hS]; exact hHeld.hR.lt
          have hY : At (V7.alloc (.cells zeroA 37)) Y10 zeroA 37 := by rw [hYe]; exact At.new _ _ _
          have hXY : X7 ≠ Y10 := by have := hX.lt; omega
          replace hX := hX.alloc (.cells zeroA 37)
          rw [← hYe, ← HZ.out]
          rw [← HZ.out] at hHeld2
          generalize V7.alloc (.cells zeroA 37) = V10 at *
          clear hHeld hK K hYe
          have hHeld := hHeld2
          clear hHeld2
          refine wpAnyH_ready (rs := [5]) (by kernel_rfl) (by simp) ?_
          refine (AllReadyH.cons rfl (fun K hK => ?_) AllReadyH.nil)
          · go_simp
            go_at_call 33
            refine (Hs2.out _).mono ?_
            rintro e V11 ⟨rfl, hg⟩
            refine hK.out _ _ (hHeld.step hg) (fun hHeld2 => ?_)
            clear hHeld hK K
            have hHeld := hHeld2
            clear hHeld2
            replace hX := hX.gr hg
            replace hY := hY.gr hg
            clear hg
            refine wpAnyH_ready (rs := [8]) (by kernel_rfl) (by simp) ?_
            refine AllReadyH.cons rfl (fun K hK => ?_) AllReadyH.nil
            rw [if_pos (by rfl)]
            refine wp_store_mid 37 _ _ rfl X7 0 _ rfl rfl (hX.zthere (length_subL la lb)) (HI1.out) (HO1.out) ?_
            refine hK.out _ _ (hHeld.put X7 (by omega) _) (fun hHeld2 => ?_)
            have hX2 := hX.zput (length_subL la lb)
            have hY2 : At (V11.setCells X7 0 (idV (subL la lb)).toArray.toList) Y10 zeroA 37 := hY.of_heap (heap_setCells_other _ _ (fun e => hXY e.symm) _ _ _)
            generalize V11.setCells X7 0 (idV (subL la lb)).toArray.toList = U at *
            clear hK K hHeld hX hY
            refine wpAnyH_ready (rs := [9]) (by kernel_rfl) (by simp) ?_
            refine AllReadyH.cons rfl (fun K hK => ?_) AllReadyH.nil
            rw [if_pos (by rfl)]
            refine wp_store_mid 37 _ _ rfl Y10 0 _ rfl rfl (hY2.zthere (length_subL lb la)) (HI2.out) (HO2.out) ?_
            refine hK.out _ _ (hHeld2.put Y10 (by omega) _) (fun hHeld3 => ?_)
            have hY3 := hY2.zput (length_subL lb la)
            have hX3 : At (U.setCells Y10 0 (idV (subL lb la)).toArray.toList) X7 (idV (subL la lb)).toArray 37 := hX2.of_heap (heap_setCells_other _ _ hXY _ _ _)
            generalize U.setCells Y10 0 (idV (subL lb la)).toArray.toList = U2 at *
            clear hK K hHeld2 hX2 hY2
            refine wpAnyH_done (by kernel_rfl) ?_ _
            go_wp2_with fail
            go_meet
            exact ⟨X7, Y10, rfl, rfl, hHeld3.gr, hS ▸ hHeld3.hR, hX3, hY3⟩
      · go_simp
        refine hK.out _ _ (hHeld.step ((Gr.refl _).alloc _)) (fun hHeld2 => ?_)
        obtain ⟨Y12, hYe⟩ : ∃ q, q = V1.heap.size := ⟨_, rfl⟩
        have hYl : S + 1 + 1 < Y12 := by rw [hYe, ← hS]; exact hHeld.hR.lt
        have hY : At (V1.alloc (.cells zeroA 37)) Y12 zeroA 37 := by rw [hYe]; exact At.new _ _ _
        rw [← hYe, ← HZ.out]
        rw [← HZ.out] at hHeld2
        generalize V1.alloc (.cells zeroA 37) = V12 at *
        clear hHeld hK K hYe
        have hHeld := hHeld2
        clear hHeld2
        refine wpAnyH_ready (rs := [5, 6]) (by kernel_rfl) (by simp) ?_
        refine (AllReadyH.cons rfl (fun K hK => ?_) (AllReadyH.cons rfl (fun K hK => ?_) AllReadyH.nil))
        · go_simp
          go_at_call 33
          refine (Hs2.out _).mono ?_
          rintro e V13 ⟨rfl, hg⟩
          refine hK.out _ _ (hHeld.step hg) (fun hHeld2 => ?_)
          clear hHeld hK K
          have hHeld := hHeld2
          clear hHeld2
          replace hY := hY.gr hg
          clear hg
          refine wpAnyH_ready (rs := [6]) (by kernel_rfl) (by simp) ?_
          refine (AllReadyH.cons rfl (fun K hK => ?_) AllReadyH.nil)
          · go_simp
            refine hK.out _ _ (hHeld.step ((Gr.refl _).alloc _)) (fun hHeld2 => ?_)
            obtain ⟨X14, hXe⟩ : ∃ q, q = V13.heap.size := ⟨_, rfl⟩
            have hXl : S + 1 + 1 < X14 := by rw [hXe, ← hS]; exact hHeld.hR.lt
            have hX : At (V13.alloc (.cells zeroA 37)) X14 zeroA 37 := by rw [hXe]; exact At.new _ _ _
            have hXY : X14 ≠ Y12 := by have := hY.lt; omega
            replace hY := hY.alloc (.cells zeroA 37)
            rw [← hXe, ← HZ.out]
            rw [← HZ.out] at hHeld2
            generalize V13.alloc (.cells zeroA 37) = V14 at *
            clear hHeld hK K hXe
            have hHeld := hHeld2
            clear hHeld2
            refine wpAnyH_ready (rs := [8]) (by kernel_rfl) (by simp) ?_
            refine AllReadyH.cons rfl (fun K hK => ?_) AllReadyH.nil
            rw [if_pos (by rfl)]
            refine wp_store_mid 37 _ _ rfl X14 0 _ rfl rfl (hX.zthere (length_subL la lb)) (HI1.out) (HO1.out) ?_
            refine hK.out _ _ (hHeld.put X14 (by omega) _) (fun hHeld2 => ?_)
            have hX2 := hX.zput (length_subL la lb)
            have hY2 : At (V14.setCells X14 0 (idV (subL la lb)).toArray.toList) Y12 zeroA 37 := hY.of_heap (heap_setCells_other _ _ (fun e => hXY e.symm) _ _ _)
            generalize V14.setCells X14 0 (idV (subL la lb)).toArray.toList = U at *
            clear hK K hHeld hX hY
            refine wpAnyH_ready (rs := [9]) (by kernel_rfl) (by simp) ?_
            refine AllReadyH.cons rfl (fun K hK => ?_) AllReadyH.nil
            rw [if_pos (by rfl)]
            refine wp_store_mid 37 _ _ rfl Y12 0 _ rfl rfl (hY2.zthere (length_subL lb la)) (HI2.out) (HO2.out) ?_
            refine hK.out _ _ (hHeld2.put Y12 (by omega) _) (fun hHeld3 => ?_)
            have hY3 := hY2.zput (length_subL lb la)
            have hX3 : At (U.setCells Y12 0 (idV (subL lb la)).toArray.toList) X14 (idV (subL la lb)).toArray 37 := hX2.of_heap (heap_setCells_other _ _ hXY _ _ _)
            generalize U.setCells Y12 0 (idV (subL lb la)).toArray.toList = U2 at *
            clear hK K hHeld2 hX2 hY2
            refine wpAnyH_done (by kernel_rfl) ?_ _
            go_wp2_with fail
            go_meet
            exact ⟨X14, Y12, rfl, rfl, hHeld3.gr, hS ▸ hHeld3.hR, hX3, hY3⟩
        · go_simp
          refine hK.out _ _ (hHeld.step ((Gr.refl _).alloc _)) (fun hHeld2 => ?_)
          obtain ⟨X15, hXe⟩ : ∃ q, q = V12.heap.size := ⟨_, rfl⟩
          have hXl : S + 1 + 1 < X15 := by rw [hXe, ← hS]; exact hHeld.hR.lt
          have hX : At (V12.alloc (.cells zeroA 37)) X15 zeroA 37 := by rw [hXe]; exact At.new _ _ _
          have hXY : X15 ≠ Y12 := by have := hY.lt; omega
          replace hY := hY.alloc (.cells zeroA 37)
          rw [← hXe, ← HZ.out]
          rw [← HZ.out] at hHeld2
          generalize V12.alloc (.cells zeroA 37) = V15 at *
          clear hHeld hK K hXe
          have hHeld := hHeld2
          clear hHeld2
          refine wpAnyH_ready (rs := [5]) (by kernel_rfl) (by simp) ?_
          refine (AllReadyH.cons rfl (fun K hK => ?_) AllReadyH.nil)
          · go_simp
            go_at_call 33
            refine (Hs2.out _).mono ?_
            rintro e V16 ⟨rfl, hg⟩
            refine hK.out _ _ (hHeld.step hg) (fun hHeld2 => ?_)
            clear hHeld hK K
            have hHeld := hHeld2
            clear hHeld2
            replace hX := hX.gr hg
            replace hY := hY.gr hg
            clear hg
            refine wpAnyH_ready (rs := [8]) (by kernel_rfl) (by simp) ?_
            refine AllReadyH.cons rfl (fun K hK => ?_) AllReadyH.nil
            rw [if_pos (by rfl)]
            refine wp_store_mid 37 _ _ rfl X15 0 _ rfl rfl (hX.zthere (length_subL la lb)) (HI1.out) (HO1.out) ?_
            refine hK.out _ _ (hHeld.put X15 (by omega) _) (fun hHeld2 => ?_)
            have hX2 := hX.zput (length_subL la lb)
            have hY2 : At (V16.setCells X15 0 (idV (subL la lb)).toArray.toList) Y12 zeroA 37 := hY.of_heap (heap_setCells_other _ _ (fun e => hXY e.symm) _ _ _)
            generalize V16.setCells X15 0 (idV (subL la lb)).toArray.toList = U at *
            clear hK K hHeld hX hY
            refine wpAnyH_ready (rs := [9]) (by kernel_rfl) (by simp) ?_
            refine AllReadyH.cons rfl (fun K hK => ?_) AllReadyH.nil
            rw [if_pos (by rfl)]
            refine wp_store_mid 37 _ _ rfl Y12 0 _ rfl rfl (hY2.zthere (length_subL lb la)) (HI2.out) (HO2.out) ?_
            refine hK.out _ _ (hHeld2.put Y12 (by omega) _) (fun hHeld3 => ?_)
            have hY3 := hY2.zput (length_subL lb la)
            have hX3 : At (U.setCells Y12 0 (idV (subL lb la)).toArray.toList) X15 (idV (subL la lb)).toArray 37 := hX2.of_heap (heap_setCells_other _ _ hXY _ _ _)
            generalize U.setCells Y12 0 (idV (subL lb la)).toArray.toList = U2 at *
            clear hK K hHeld2 hX2 hY2
            refine wpAnyH_done (by kernel_rfl) ?_ _
            go_wp2_with fail
            go_meet
            exact ⟨X15, Y12, rfl, rfl, hHeld3.gr, hS ▸ hHeld3.hR, hX3, hY3⟩
    · go_simp
      refine hK.out _ _ (hHeld.step ((Gr.refl _).alloc _)) (fun hHeld2 => ?_)
      obtain ⟨X17, hXe⟩ : ∃ q, q = V0.heap.size := ⟨_, rfl⟩
      have hXl : S + 1 + 1 < X17 := by rw [hXe, ← hS]; exact hHeld.hR.lt
      have hX : At (V0.alloc (.cells zeroA 37)) X17 zeroA 37 := by rw [hXe]; exact At.new _ _ _
      rw [← hXe, ← HZ.out]
      rw [← HZ.out] at hHeld2
      generalize V0.alloc (.cells zeroA 37) = V17 at *
      clear hHeld hK K hXe
      have hHeld := hHeld2
      clear hHeld2
      refine wpAnyH_ready (rs := [2, 7]) (by kernel_rfl) (by simp) ?_
      refine (AllReadyH.cons rfl (fun K hK => ?_) (AllReadyH.cons rfl (fun K hK => ?_) AllReadyH.nil))
      · go_simp
        go_at_call 33
        refine (Hs1.out _).mono ?_
        rintro e V18 ⟨rfl, hg⟩
        refine hK.out _ _ (hHeld.step hg) (fun hHeld2 => ?_)
        clear hHeld hK K
        have hHeld := hHeld2
        clear hHeld2
        replace hX := hX.gr hg
        clear hg
        refine wpAnyH_ready (rs := [5, 7]) (by kernel_rfl) (by simp) ?_
        refine (AllReadyH.cons rfl (fun K hK => ?_) (AllReadyH.cons rfl (fun K hK => ?_) AllReadyH.nil))
        · go_simp
          go_at_call 33
          refine (Hs2.out _).mono ?_
          rintro e V19 ⟨rfl, hg⟩
          refine hK.out _ _ (hHeld.step hg) (fun hHeld2 => ?_)
          clear hHeld hK K
          have hHeld := hHeld2
          clear hHeld2
          replace hX := hX.gr hg
          clear hg
          refine wpAnyH_ready (rs := [7]) (by kernel_rfl) (by simp) ?_
          refine (AllReadyH.cons rfl (fun K hK => ?_) AllReadyH.nil)
          · go_simp
            refine hK.out _ _ (hHeld.step ((Gr.refl _).alloc _)) (fun hHeld2 => ?_)
            obtain ⟨Y20, hYe⟩ : ∃ q, q = V19.heap.size := ⟨_, rfl⟩
            have hYl : S + 1 + 1 < Y20 := by rw [hYe, ← hS]; exact hHeld.hR.lt
            have hY : At (V19.alloc (.cells zeroA 37)) Y20 zeroA 37 := by rw [hYe]; exact At.new _ _ _
            have hXY : X17 ≠ Y20 := by have := hX.lt; omega
            replace hX := hX.alloc (.cells zeroA 37)
            rw [← hYe, ← HZ.out]
            rw [← HZ.out] at hHeld2
            generalize V19.alloc (.cells zeroA 37) = V20 at *
            clear hHeld hK K hYe
            have hHeld := hHeld2
            clear hHeld2
            refine wpAnyH_ready (rs := [8]) (by kernel_rfl) (by simp) ?_
            refine AllReadyH.cons rfl (fun K hK => ?_) AllReadyH.nil
            rw [if_pos (by rfl)]
            refine wp_store_mid 37 _ _ rfl X17 0 _ rfl rfl (hX.zthere (length_subL la lb)) (HI1.out) (HO1.out) ?_
            refine hK.out _ _ (hHeld.put X17 (by omega) _) (fun hHeld2 => ?_)
            have hX2 := hX.zput (length_subL la lb)
            have hY2 : At (V20.setCells X17 0 (idV (subL la lb)).toArray.toList) Y20 zeroA 37 := hY.of_heap (heap_setCells_other _ _ (fun e => hXY e.symm) _ _ _)
            generalize V20.setCells X17 0 (idV (subL la lb)).toArray.toList = U at *
            clear hK K hHeld hX hY
            refine wpAnyH_ready (rs := [9]) (by kernel_rfl) (by simp) ?_
            refine AllReadyH.cons rfl (fun K hK => ?_) AllReadyH.nil
            rw [if_pos (by rfl)]
            refine wp_store_mid 37 _ _ rfl Y20 0 _ rfl rfl (hY2.zthere (length_subL lb la)) (HI2.out) (HO2.out) ?_
            refine hK.out _ _ (hHeld2.put Y20 (by omega) _) (fun hHeld3 => ?_)
            have hY3 := hY2.zput (length_subL lb la)
            have hX3 : At (U.setCells Y20 0 (idV (subL lb la)).toArray.toList) X17 (idV (subL la lb)).toArray 37 := hX2.of_heap (heap_setCells_other _ _ hXY _ _ _)
            generalize U.setCells Y20 0 (idV (subL lb la)).toArray.toList = U2 at *
            clear hK K hHeld2 hX2 hY2
            refine wpAnyH_done (by kernel_rfl) ?_ _
            go_wp2_with fail
            go_meet
            exact ⟨X17, Y20, rfl, rfl, hHeld3.gr, hS ▸ hHeld3.hR, hX3, hY3⟩
        · go_simp
          refine hK.out _ _ (hHeld.step ((Gr.refl _).alloc _)) (fun hHeld2 => ?_)
          obtain ⟨Y21, hYe⟩ : ∃ q, q = V18.heap.size := ⟨_, rfl⟩
          have hYl : S + 1 + 1 < Y21 := by rw [hYe, ← hS]; exact hHeld.hR.lt
          have hY : At (V18.alloc (.cells zeroA 37)) Y21 zeroA 37 := by rw [hYe]; exact At.new _ _ _
          have hXY : X17 ≠ Y21 := by have := hX.lt; omega
          replace hX := hX.alloc (.cells zeroA 37)
          rw [← hYe, ← HZ.out]
          rw [← HZ.out] at hHeld2
          generalize V18.alloc (.cells zeroA 37) = V21 at *
          clear hHeld hK K hYe
          have hHeld := hHeld2
          clear hHeld2
          refine wpAnyH_ready (rs := [5]) (by kernel_rfl) (by simp) ?_
          refine (AllReadyH.cons rfl (fun K hK => ?_) AllReadyH.nil)
          · go_simp
            go_at_call 33
            refine (Hs2.out _).mono ?_
            rintro e V22 ⟨rfl, hg⟩
            refine hK.out _ _ (hHeld.step hg) (fun hHeld2 => ?_)
            clear hHeld hK K
            have hHeld := hHeld2
            clear hHeld2
            replace hX := hX.gr hg
            replace hY := hY.gr hg
            clear hg
            refine wpAnyH_ready (rs := [8]) (by kernel_rfl) (by simp) ?_
            refine AllReadyH.cons rfl (fun K hK => ?_) AllReadyH.nil
            rw [if_pos (by rfl)]
            refine wp_store_mid 37 _ _ rfl X17 0 _ rfl rfl (hX.zthere (length_subL la lb)) (HI1.out) (HO1.out) ?_
            refine hK.out _ _ (hHeld.put X17 (by omega) _) (fun hHeld2 => ?_)
            have hX2 := hX.zput (length_subL la lb)
            have hY2 : At (V22.setCells X17 0 (idV (subL la lb)).toArray.toList) Y21 zeroA 37 := hY.of_heap (heap_setCells_other _ _ (fun e => hXY e.symm) _ _ _)
            generalize V22.setCells X17 0 (idV (subL la lb)).toArray.toList = U at *
            clear hK K hHeld hX hY
            refine wpAnyH_ready (rs := [9]) (by kernel_rfl) (by simp) ?_
            refine AllReadyH.cons rfl (fun K hK => ?_) AllReadyH.nil
            rw [if_pos (by rfl)]
            refine wp_store_mid 37 _ _ rfl Y21 0 _ rfl rfl (hY2.zthere (length_subL lb la)) (HI2.out) (HO2.out) ?_
            refine hK.out _ _ (hHeld2.put Y21 (by omega) _) (fun hHeld3 => ?_)
            have hY3 := hY2.zput (length_subL lb la)
            have hX3 : At (U.setCells Y21 0 (idV (subL lb la)).toArray.toList) X17 (idV (subL la lb)).toArray 37 := hX2.of_heap (heap_setCells_other _ _ hXY _ _ _)
            generalize U.setCells Y21 0 (idV (subL lb la)).toArray.toList = U2 at *
            clear hK K hHeld2 hX2 hY2
            refine wpAnyH_done (by kernel_rfl) ?_ _
            go_wp2_with fail
            go_meet
            exact ⟨X17, Y21, rfl, rfl, hHeld3.gr, hS ▸ hHeld3.hR, hX3, hY3⟩
      · go_simp
        refine hK.out _ _ (hHeld.step ((Gr.refl _).alloc _)) (fun hHeld2 => ?_)
        obtain ⟨Y23, hYe⟩ : ∃ q, q = V17.heap.size := ⟨_, rfl⟩
        have hYl : S + 1 + 1 < Y23 := by rw [hYe, ← hS]; exact hHeld.hR.lt
        have hY : At (V17.alloc (.cells zeroA 37)) Y23 zeroA 37 := by rw [hYe]; exact At.new _ _ _
        have hXY : X17 ≠ Y23 := by have := hX.lt; omega
        replace hX := hX.alloc (.cells zeroA 37)
        rw [← hYe, ← HZ.out]
        rw [← HZ.out] at hHeld2
        generalize V17.alloc (.cells zeroA 37) = V23 at *
        clear hHeld hK K hYe
        have hHeld := hHeld2
        clear hHeld2
        refine wpAnyH_ready (rs := [2]) (by kernel_rfl) (by simp) ?_
        refine (AllReadyH.cons rfl (fun K hK => ?_) AllReadyH.nil)
        · go_simp
          go_at_call 33
          refine (Hs1.out _).mono ?_
          rintro e V24 ⟨rfl, hg⟩
          refine hK.out _ _ (hHeld.step hg) (fun hHeld2 => ?_)
          clear hHeld hK K
          have hHeld := hHeld2
          clear hHeld2
          replace hX := hX.gr hg
          replace hY := hY.gr hg
          clear hg
          refine wpAnyH_ready (rs := [5]) (by kernel_rfl) (by simp) ?_
          refine (AllReadyH.cons rfl (fun K hK => ?_) AllReadyH.nil)
          · go_simp
            go_at_call 33
            refine (Hs2.out _).mono ?_
            rintro e V25 ⟨rfl, hg⟩
            refine hK.out _ _ (hHeld.step hg) (fun hHeld2 => ?_)
            clear hHeld hK K
            have hHeld := hHeld2
            clear hHeld2
            replace hX := hX.gr hg
            replace hY := hY.gr hg
            clear hg
            refine wpAnyH_ready (rs := [8]) (by kernel_rfl) (by simp) ?_
            refine AllReadyH.cons rfl (fun K hK => ?_) AllReadyH.nil
            rw [if_pos (by rfl)]
            refine wp_store_mid 37 _ _ rfl X17 0 _ rfl rfl (hX.zthere (length_subL la lb)) (HI1.out) (HO1.out) ?_
            refine hK.out _ _ (hHeld.put X17 (by omega) _) (fun hHeld2 => ?_)
            have hX2 := hX.zput (length_subL la lb)
            have hY2 : At (V25.setCells X17 0 (idV (subL la lb)).toArray.toList) Y23 zeroA 37 := hY.of_heap (heap_setCells_other _ _ (fun e => hXY e.symm) _ _ _)
            generalize V25.setCells X17 0 (idV (subL la lb)).toArray.toList = U at *
            clear hK K hHeld hX hY
            refine wpAnyH_ready (rs := [9]) (by kernel_rfl) (by simp) ?_
            refine AllReadyH.cons rfl (fun K hK => ?_) AllReadyH.nil
            rw [if_pos (by rfl)]
            refine wp_store_mid 37 _ _ rfl Y23 0 _ rfl rfl (hY2.zthere (length_subL lb la)) (HI2.out) (HO2.out) ?_
            refine hK.out _ _ (hHeld2.put Y23 (by omega) _) (fun hHeld3 => ?_)
            have hY3 := hY2.zput (length_subL lb la)
            have hX3 : At (U.setCells Y23 0 (idV (subL lb la)).toArray.toList) X17 (idV (subL la lb)).toArray 37 := hX2.of_heap (heap_setCells_other _ _ hXY _ _ _)
            generalize U.setCells Y23 0 (idV (subL lb la)).toArray.toList = U2 at *
            clear hK K hHeld2 hX2 hY2
            refine wpAnyH_done (by kernel_rfl) ?_ _
            go_wp2_with fail
            go_meet
            exact ⟨X17, Y23, rfl, rfl, hHeld3.gr, hS ▸ hHeld3.hR, hX3, hY3⟩
    · go_simp
      refine hK.out _ _ (hHeld.step ((Gr.refl _).alloc _)) (fun hHeld2 => ?_)
      obtain ⟨Y26, hYe⟩ : ∃ q, q = V0.heap.size := ⟨_, rfl⟩
      have hYl : S + 1 + 1 < Y26 := by rw [hYe, ← hS]; exact hHeld.hR.lt
      have hY : At (V0.alloc (.cells zeroA 37)) Y26 zeroA 37 := by rw [hYe]; exact At.new _ _ _
      rw [← hYe, ← HZ.out]
      rw [← HZ.out] at hHeld2
      generalize V0.alloc (.cells zeroA 37) = V26 at *
      clear hHeld hK K hYe
      have hHeld := hHeld2
      clear hHeld2
      refine wpAnyH_ready (rs := [2, 6]) (by kernel_rfl) (by simp) ?_
      refine (AllReadyH.cons rfl (fun K hK => ?_) (AllReadyH.cons rfl (fun K hK => ?_) AllReadyH.nil))
      · go_simp
        go_at_call 33
        refine (Hs1.out _).mono ?_
        rintro e V27 ⟨rfl, hg⟩
        refine hK.out _ _ (hHeld.step hg) (fun hHeld2 => ?_)
        clear hHeld hK K
        have hHeld := hHeld2
        clear hHeld2
        replace hY := hY.gr hg
        clear hg
        refine wpAnyH_ready (rs := [5, 6]) (by kernel_rfl) (by simp) ?_
        refine (AllReadyH.cons rfl (fun K hK => ?_) (AllReadyH.cons rfl (fun K hK => ?_) AllReadyH.nil))
        · go_simp
          go_at_call 33
          refine (Hs2.out _).mono ?_
          rintro e V28 ⟨rfl, hg⟩
          refine hK.out _ _ (hHeld.step hg) (fun hHeld2 => ?_)
          clear hHeld hK K
          have hHeld := hHeld2
          clear hHeld2
          replace hY := hY.gr hg
          clear hg
          refine wpAnyH_ready (rs := [6]) (by kernel_rfl) (by simp) ?_
          refine (AllReadyH.cons rfl (fun K hK => ?_) AllReadyH.nil)
          · go_simp
            refine hK.out _ _ (hHeld.step ((Gr.refl _).alloc _)) (fun hHeld2 => ?_)
            obtain ⟨X29, hXe⟩ : ∃ q, q = V28.heap.size := ⟨_, rfl⟩
            have hXl : S + 1 + 1 < X29 := by rw [hXe, ← hS]; exact hHeld.hR.lt
            have hX : At (V28.alloc (.cells zeroA 37)) X29 zeroA 37 := by rw [hXe]; exact At.new _ _ _
            have hXY : X29 ≠ Y26 := by have := hY.lt; omega
            replace hY := hY.alloc (.cells zeroA 37)
            rw [← hXe, ← HZ.out]
            rw [← HZ.out] at hHeld2
            generalize V28.alloc (.cells zeroA 37) = V29 at *
            clear hHeld hK K hXe
            have hHeld := hHeld2
            clear hHeld2
            refine wpAnyH_ready (rs := [8]) (by kernel_rfl) (by simp) ?_
            refine AllReadyH.cons rfl (fun K hK => ?_) AllReadyH.nil
            rw [if_pos (by rfl)]
            refine wp_store_mid 37 _ _ rfl X29 0 _ rfl rfl (hX.zthere (length_subL la lb)) (HI1.out) (HO1.out) ?_
            refine hK.out _ _ (hHeld.put X29 (by omega) _) (fun hHeld2 => ?_)
            have hX2 := hX.zput (length_subL la lb)
            have hY2 : At (V29.setCells X29 0 (idV (subL la lb)).toArray.toList) Y26 zeroA 37 := hY.of_heap (heap_setCells_other _ _ (fun e => hXY e.symm) _ _ _)
            generalize V29.setCells X29 0 (idV (subL la lb)).toArray.toList = U at *
            clear hK K hHeld hX hY
            refine wpAnyH_ready (rs := [9]) (by kernel_rfl) (by simp) ?_
            refine AllReadyH.cons rfl (fun K hK => ?_) AllReadyH.nil
            rw [if_pos (by rfl)]
            refine wp_store_mid 37 _ _ rfl Y26 0 _ rfl rfl (hY2.zthere (length_subL lb la)) (HI2.out) (HO2.out) ?_
            refine hK.out _ _ (hHeld2.put Y26 (by omega) _) (fun hHeld3 => ?_)
            have hY3 := hY2.zput (length_subL lb la)
            have hX3 : At (U.setCells Y26 0 (idV (subL lb la)).toArray.toList) X29 (idV (subL la lb)).toArray 37 := hX2.of_heap (heap_setCells_other _ _ hXY _ _ _)
            generalize U.setCells Y26 0 (idV (subL lb la)).toArray.toList = U2 at *
            clear hK K hHeld2 hX2 hY2
            refine wpAnyH_done (by kernel_rfl) ?_ _
            go_wp2_with fail
            go_meet
            exact ⟨X29, Y26, rfl, rfl, hHeld3.gr, hS ▸ hHeld3.hR, hX3, hY3⟩
        · go_simp
          refine hK.out _ _ (hHeld.step ((Gr.refl _).alloc _)) (fun hHeld2 => ?_)
          obtain ⟨X30, hXe⟩ : ∃ q, q = V27.heap.size := ⟨_, rfl⟩
          have hXl : S + 1 + 1 < X30 := by rw [hXe, ← hS]; exact hHeld.hR.lt
          have hX : At (V27.alloc (.cells zeroA 37)) X30 zeroA 37 := by rw [hXe]; exact At.new _ _ _
          have hXY : X30 ≠ Y26 := by have := hY.lt; omega
          replace hY := hY.alloc (.cells zeroA 37)
          rw [← hXe, ← HZ.out]
          rw [← HZ.out] at hHeld2
          generalize V27.alloc (.cells zeroA 37) = V30 at *
          clear hHeld hK K hXe
          have hHeld := hHeld2
          clear hHeld2
          refine wpAnyH_ready (rs := [5]) (by kernel_rfl) (by simp) ?_
          refine (AllReadyH.cons rfl (fun K hK => ?_) AllReadyH.nil)
          · go_simp
            go_at_call 33
            refine (Hs2.out _).mono ?_
            rintro e V31 ⟨rfl, hg⟩
            refine hK.out _ _ (hHeld.step hg) (fun hHeld2 => ?_)
            clear hHeld hK K
            have hHeld := hHeld2
            clear hHeld2
            replace hX := hX.gr hg
            replace hY := hY.gr hg
            clear hg
            refine wpAnyH_ready (rs := [8]) (by kernel_rfl) (by simp) ?_
            refine AllReadyH.cons rfl (fun K hK => ?_) AllReadyH.nil
            rw [if_pos (by rfl)]
            refine wp_store_mid 37 _ _ rfl X30 0 _ rfl rfl (hX.zthere (length_subL la lb)) (HI1.out) (HO1.out) ?_
            refine hK.out _ _ (hHeld.put X30 (by omega) _) (fun hHeld2 => ?_)
            have hX2 := hX.zput (length_subL la lb)
            have hY2 : At (V31.setCells X30 0 (idV (subL la lb)).toArray.toList) Y26 zeroA 37 := hY.of_heap (heap_setCells_other _ _ (fun e => hXY e.symm) _ _ _)
            generalize V31.setCells X30 0 (idV (subL la lb)).toArray.toList = U at *
            clear hK K hHeld hX hY
            refine wpAnyH_ready (rs := [9]) (by kernel_rfl) (by simp) ?_
            refine AllReadyH.cons rfl (fun K hK => ?_) AllReadyH.nil
            rw [if_pos (by rfl)]
            refine wp_store_mid 37 _ _ rfl Y26 0 _ rfl rfl (hY2.zthere (length_subL lb la)) (HI2.out) (HO2.out) ?_
            refine hK.out _ _ (hHeld2.put Y26 (by omega) _) (fun hHeld3 => ?_)
            have hY3 := hY2.zput (length_subL lb la)
            have hX3 : At (U.setCells Y26 0 (idV (subL lb la)).toArray.toList) X30 (idV (subL la lb)).toArray 37 := hX2.of_heap (heap_setCells_other _ _ hXY _ _ _)
            generalize U.setCells Y26 0 (idV (subL lb la)).toArray.toList = U2 at *
            clear hK K hHeld2 hX2 hY2
            refine wpAnyH_done (by kernel_rfl) ?_ _
            go_wp2_with fail
            go_meet
            exact ⟨X30, Y26, rfl, rfl, hHeld3.gr, hS ▸ hHeld3.hR, hX3, hY3⟩
      · go_simp
        refine hK.out _ _ (hHeld.step ((Gr.refl _).alloc _)) (fun hHeld2 => ?_)
        obtain ⟨X32, hXe⟩ : ∃ q, q = V26.heap.size := ⟨_, rfl⟩
        have hXl : S + 1 + 1 < X32 := by rw [hXe, ← hS]; exact hHeld.hR.lt
        have hX : At (V26.alloc (.cells zeroA 37)) X32 zeroA 37 := by rw [hXe]; exact At.new _ _ _
        have hXY : X32 ≠ Y26 := by have := hY.lt; omega
        replace hY := hY.alloc (.cells zeroA 37)
        rw [← hXe, ← HZ.out]
        rw [← HZ.out] at hHeld2
        generalize V26.alloc (.cells zeroA 37) = V32 at *
        clear hHeld hK K hXe
        have hHeld := hHeld2
        clear hHeld2
        refine wpAnyH_ready (rs := [2]) (by kernel_rfl) (by simp) ?_
        refine (AllReadyH.cons rfl (fun K hK => ?_) AllReadyH.nil)
        · go_simp
          go_at_call 33
          refine (Hs1.out _).mono ?_
          rintro e V33 ⟨rfl, hg⟩
          refine hK.out _ _ (hHeld.step hg) (fun hHeld2 => ?_)
          clear hHeld hK K
          have hHeld := hHeld2
          clear hHeld2
          replace hX := hX.gr hg
          replace hY := hY.gr hg
          clear hg
          refine wpAnyH_ready (rs := [5]) (by kernel_rfl) (by simp) ?_
          refine (AllReadyH.cons rfl (fun K hK => ?_) AllReadyH.nil)
          · go_simp
            go_at_call 33
            refine (Hs2.out _).mono ?_
            rintro e V34 ⟨rfl, hg⟩
            refine hK.out _ _ (hHeld.step hg) (fun hHeld2 => ?_)
            clear hHeld hK K
            have hHeld := hHeld2
            clear hHeld2
            replace hX := hX.gr hg
            replace hY := hY.gr hg
            clear hg
            refine wpAnyH_ready (rs := [8]) (by kernel_rfl) (by simp) ?_
            refine AllReadyH.cons rfl (fun K hK => ?_) AllReadyH.nil
            rw [if_pos (by rfl)]
            refine wp_store_mid 37 _ _ rfl X32 0 _ rfl rfl (hX.zthere (length_subL la lb)) (HI1.out) (HO1.out) ?_
            refine hK.out _ _ (hHeld.put X32 (by omega) _) (fun hHeld2 => ?_)
            have hX2 := hX.zput (length_subL la lb)
            have hY2 : At (V34.setCells X32 0 (idV (subL la lb)).toArray.toList) Y26 zeroA 37 := hY.of_heap (heap_setCells_other _ _ (fun e => hXY e.symm) _ _ _)
            generalize V34.setCells X32 0 (idV (subL la lb)).toArray.toList = U at *
            clear hK K hHeld hX hY
            refine wpAnyH_ready (rs := [9]) (by kernel_rfl) (by simp) ?_
            refine AllReadyH.cons rfl (fun K hK => ?_) AllReadyH.nil
            rw [if_pos (by rfl)]
            refine wp_store_mid 37 _ _ rfl Y26 0 _ rfl rfl (hY2.zthere (length_subL lb la)) (HI2.out) (HO2.out) ?_
            refine hK.out _ _ (hHeld2.put Y26 (by omega) _) (fun hHeld3 => ?_)
            have hY3 := hY2.zput (length_subL lb la)
            have hX3 : At (U.setCells Y26 0 (idV (subL lb la)).toArray.toList) X32 (idV (subL la lb)).toArray 37 := hX2.of_heap (heap_setCells_other _ _ hXY _ _ _)
            generalize U.setCells Y26 0 (idV (subL lb la)).toArray.toList = U2 at *
            clear hK K hHeld2 hX2 hY2
            refine wpAnyH_done (by kernel_rfl) ?_ _
            go_wp2_with fail
            go_meet
            exact ⟨X32, Y26, rfl, rfl, hHeld3.gr, hS ▸ hHeld3.hR, hX3, hY3⟩
  case rest =>
    obtain ⟨X, Y, rfl, rfl, gr, aR, aX, aY⟩ := hcut
    have LX := hide (idload aX.all (length_subL la lb))
    have LY := hide (idload aY.all (length_subL lb la))
    have HC := hide (cmp_grown wc (subL lb la) (subL la lb) (length_subL lb la) (length_subL la lb))
    have HX := hide (And.intro aX (And.intro aR (And.intro aY gr)))
    clear aX aR aY gr J
    go_wp2_with (first | refine wpList_load_run rfl 37 _ rfl Y 0 rfl _ LY.out ?_ | refine wpList_load_run rfl 37 _ rfl X 0 rfl _ LX.out ?_)
    refine HC.out.mono ?_
    rintro e w2 ⟨rfl, hg0⟩
    have hg : Gr wc w2 := hg0
    obtain ⟨aX, aR, aY, gr⟩ := HX.out
    replace aX := aX.gr hg
    replace aY := aY.gr hg
    replace aR := aR.gr hg
    replace gr := gr.trans hg
    have LX2 := hide (idload aX.all (length_subL la lb))
    have LY2 := hide (idload aY.all (length_subL lb la))
    have T1 := hide (aR.zthere (length_subL la lb))
    have T2 := hide (aR.zthere (length_subL lb la))
    have F1 : Hid (At (w2.setCells (S + 1 + 1) 0 (idV (subL la lb)).toArray.toList) (S + 1 + 1) (idV (subL la lb)).toArray 37 ∧ Gr w (w2.setCells (S + 1 + 1) 0 (idV (subL la lb)).toArray.toList)) := ⟨aR.zput (length_subL la lb), Gr.setCells _ (by omega) _ _ _ gr⟩
    have F2 : Hid (At (w2.setCells (S + 1 + 1) 0 (idV (subL lb la)).toArray.toList) (S + 1 + 1) (idV (subL lb la)).toArray 37 ∧ Gr w (w2.setCells (S + 1 + 1) 0 (idV (subL lb la)).toArray.toList)) := ⟨aR.zput (length_subL lb la), Gr.setCells _ (by omega) _ _ _ gr⟩
    have hcl := cmp_lt (subL lb la) (subL la lb) ((length_subL lb la).trans (length_subL la lb).symm)
    generalize Lib.compareBytes (subL lb la) (subL la lb) = y at *
    clear hg0 hg aX aY aR gr HX HC LX LY wc
    by_cases hy : y < 0
    · have HE : Hid (distL la lb = subL lb la) := by unfold distL; exact if_pos (hcl.1 hy)
      clear hcl
      go_wp2_with (first | refine wpList_load_run rfl 37 _ rfl Y 0 rfl _ LY2.out ?_ | refine wpList_store_mid rfl 37 _ _ rfl (S + 1 + 1) 0 _ rfl rfl T2.out HI2.out HO2.out ?_)
      refine bodyPost_ret_by (results_cell_row (P := Yba.prog) (p := 4) (ty := 37) rfl _ _ (S + 1 + 1) 37 (idV (subL lb la)).toArray _ _ rfl F2.out.1 Yba.underlying37 rfl HI2.out) rfl ?_
      exact ⟨by rw [HE.out], F2.out.2⟩
    · have HE : Hid (distL la lb = subL la lb) := by unfold distL; exact if_neg (fun h => hy (hcl.2 h))
      clear hcl
      go_wp2_with (first | refine wpList_load_run rfl 37 _ rfl X 0 rfl _ LX2.out ?_ | refine wpList_store_mid rfl 37 _ _ rfl (S + 1 + 1) 0 _ rfl rfl T1.out HI1.out HO1.out ?_)
      refine bodyPost_ret_by (results_cell_row (P := Yba.prog) (p := 4) (ty := 37) rfl _ _ (S + 1 + 1) 37 (idV (subL la lb)).toArray _ _ rfl F1.out.1 Yba.underlying37 rfl HI1.out) rfl ?_
      exact ⟨by rw [HE.out], F1.out.2⟩
end Go.Proofs.Ybulkapqu
