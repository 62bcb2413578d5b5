import Derived.Test.YbulkapquB3
import Derived.Deep.RegionHeld3
namespace Go.Proofs.Ybulkapqu
open Go.RowKit Go.Sort

/-- sub's world: S the heap's size at the start, dl the cells of d. -/
structure SubSt (w : World) (la lb : List UInt8) (dl : List UInt8) (W : World) : Prop where
  gr : Gr w W
  hA : At W w.heap.size (idV la).toArray 37
  hB : At W (w.heap.size + 1) (idV lb).toArray 37
  hR : At W (w.heap.size + 1 + 1) (idV (List.replicate 20 0)).toArray 37
  hD : At W (w.heap.size + 1 + 1 + 1) (idV dl).toArray 37
theorem SubSt.step {w : World} {la lb dl : List UInt8} {W W' : World} (h : SubSt w la lb dl W) (g : Gr W W') : SubSt w la lb dl W' :=
  ⟨h.gr.trans g, h.hA.gr g, h.hB.gr g, h.hR.gr g, h.hD.gr g⟩
theorem SubSt.put {w : World} {la lb dl : List UInt8} {W : World} (h : SubSt w la lb dl W) (o : Nat) (bs : List UInt8) (ho : o + bs.length ≤ dl.length) :
    SubSt w la lb (dl.take o ++ bs ++ dl.drop (o + bs.length)) ((W.alloc (.cells #[] 147)).setCells (w.heap.size + 1 + 1 + 1) o (idV bs)) := by
  have h' := h.step ((Gr.refl W).alloc (.cells #[] 147))
  refine ⟨Gr.setCells _ (by omega) _ _ _ h'.gr, h'.hA.of_heap (heap_setCells_other _ _ (by omega) _ _ _), h'.hB.of_heap (heap_setCells_other _ _ (by omega) _ _ _), h'.hR.of_heap (heap_setCells_other _ _ (by omega) _ _ _), ?_⟩
  have := At.setCells (idV bs) o _ _ h'.hD (by rw [length_idV, length_idV]; exact ho)
  rw [length_idV] at this
  simpa [idV, List.map_take, List.map_drop] using this
theorem subSt_start (w : World) (la lb : List UInt8) :
    SubSt w la lb (List.replicate 20 0) ((((w.alloc (.cells (idV la).toArray 37)).alloc (.cells (idV lb).toArray 37)).alloc (.cells (idV (List.replicate 20 0)).toArray 37)).alloc (.cells (idV (List.replicate 20 0)).toArray 37)) := by
  refine ⟨((((Gr.refl w).alloc _).alloc _).alloc _).alloc _, (((At.new w _ _).alloc _).alloc _).alloc _, ?_, ?_, ?_⟩
  · have := At.new (w.alloc (.cells (idV la).toArray 37)) (idV lb).toArray 37
    rw [World.size_alloc] at this
    exact (this.alloc _).alloc _
  · have := At.new ((w.alloc (.cells (idV la).toArray 37)).alloc (.cells (idV lb).toArray 37)) (idV (List.replicate 20 0)).toArray 37
    rw [World.size_alloc, World.size_alloc] at this
    exact this.alloc _
  · have := At.new (((w.alloc (.cells (idV la).toArray 37)).alloc (.cells (idV lb).toArray 37)).alloc (.cells (idV (List.replicate 20 0)).toArray 37)) (idV (List.replicate 20 0)).toArray 37
    rw [World.size_alloc, World.size_alloc, World.size_alloc] at this
    exact this

set_option maxHeartbeats 4000000 in
set_option maxRecDepth 1000000 in
theorem sub_calls (w : World) (la lb : List UInt8) (hla : la.length = 20) (hlb : lb.length = 20) :
    Calls Yba.prog 33 #[.agg (idV la).toArray, .agg (idV lb).toArray] w fun e w' => e = .returned (.agg (idV (subL la lb)).toArray) ∧ Gr w w' := by
  have mixed : Yba.prog.follows .mixedOrders = true := by kernel_rfl
  have HI := hide (subSt_start w la lb)
  rw [show (idV (List.replicate 20 (0 : UInt8))).toArray = #[.int .u8 0, .int .u8 0, .int .u8 0, .int .u8 0, .int .u8 0, .int .u8 0, .int .u8 0, .int .u8 0, .int .u8 0, .int .u8 0, .int .u8 0, .int .u8 0, .int .u8 0, .int .u8 0, .int .u8 0, .int .u8 0, .int .u8 0, .int .u8 0, .int .u8 0, .int .u8 0] from rfl] at HI
  obtain ⟨pa1, pa2, pa3⟩ := parts_lt la hla
  obtain ⟨pb1, pb2, pb3⟩ := parts_lt lb hlb
  go_enter Yba.func33, Yba.ntmps33
  go_wp2_with fail
  have J := HI.out
  clear HI
  generalize ((((w.alloc (.cells (idV la).toArray 37)).alloc (.cells (idV lb).toArray 37)).alloc (.cells #[.int .u8 0, .int .u8 0, .int .u8 0, .int .u8 0, .int .u8 0, .int .u8 0, .int .u8 0, .int .u8 0, .int .u8 0, .int .u8 0, .int .u8 0, .int .u8 0, .int .u8 0, .int .u8 0, .int .u8 0, .int .u8 0, .int .u8 0, .int .u8 0, .int .u8 0, .int .u8 0] 37)).alloc (.cells #[.int .u8 0, .int .u8 0, .int .u8 0, .int .u8 0, .int .u8 0, .int .u8 0, .int .u8 0, .int .u8 0, .int .u8 0, .int .u8 0, .int .u8 0, .int .u8 0, .int .u8 0, .int .u8 0, .int .u8 0, .int .u8 0, .int .u8 0, .int .u8 0, .int .u8 0, .int .u8 0] 37)) = W1 at J ⊢
  have ca1 : ∀ k os, Calls Yba.prog 52 #[.agg #[], .slice (some ⟨w.heap.size, 16, none⟩) 4 4] (grow (W1.drewN k) os) fun e w' => e = .returned (.int .u32 (lo32 la : Int)) ∧ Gr (grow (W1.drewN k) os) w' := fun k os =>
    uint32_at w.heap.size 16 4 4 ((la.drop 16).take 4) (grow (W1.drewN k) os) (by simp; omega) (by decide) ((J.step ((Gr.refl W1).grown k os)).hA.ids 16 4)
  have cb1 : ∀ k os, Calls Yba.prog 52 #[.agg #[], .slice (some ⟨w.heap.size + 1, 16, none⟩) 4 4] (grow (W1.drewN k) os) fun e w' => e = .returned (.int .u32 (lo32 lb : Int)) ∧ Gr (grow (W1.drewN k) os) w' := fun k os =>
    uint32_at (w.heap.size + 1) 16 4 4 ((lb.drop 16).take 4) (grow (W1.drewN k) os) (by simp; omega) (by decide) ((J.step ((Gr.refl W1).grown k os)).hB.ids 16 4)
  have cs1 : ∀ k os, Calls Yba.prog 51 #[.int .u32 (lo32 la : Int), .int .u32 (lo32 lb : Int), .int .u32 0] (grow (W1.drewN k) os) fun e w' => e = .returned (.tuple #[.int .u32 (subLo la lb : Int), .int .u32 (bor1 la lb : Int)]) ∧ Gr (grow (W1.drewN k) os) w' := fun k os =>
    (sub32_calls (lo32 la) (lo32 lb) pa3 pb3 (grow (W1.drewN k) os)).mono fun e w' ⟨h1, h2⟩ => ⟨h1, h2 ▸ Gr.refl _⟩
  have Ha1 := hide ca1
  have Hb1 := hide cb1
  have Hs1 := hide cs1
  have HJ := hide J
  clear ca1 cb1 cs1 J
  refine wp_region_quiet_grown (by assumption) (by kernel_rfl) ?_
  iterate 2 quiet_step (fail)
  quiet_step ((go_at_call 52; refine Calls.grown_of' (Ha1.out _ _)))
  iterate 2 quiet_step (fail)
  quiet_step ((go_at_call 52; refine Calls.grown_of' (Hb1.out _ _)))
  quiet_step ((go_at_call 51; refine Calls.grown_of' (Hs1.out _ _)))
  repeat (quiet_step (fail))
  refine wpQuiet_nil ?_
  intro _ hw'
  obtain ⟨⟨nq, osq⟩, hw''⟩ := hw'
  subst hw''
  have J2 := HJ.out.step ((Gr.refl W1).grown nq osq)
  clear HJ Ha1 Hb1 Hs1
  generalize grow (W1.drewN nq) osq = W2 at J2 ⊢
  clear W1 nq osq
  have hlo : subLo la lb < 4294967296 := Nat.mod_lt _ (by decide)
  have cp1 := fun q => put32_at (w.heap.size + 1 + 1 + 1) 16 4 4 (subLo la lb) _ 37 (W2.drewN q) hlo (by decide) (J2.hD.drewN q) (by simp [idV])
  have Hp1 := hide cp1
  have HJ2 := hide J2
  clear cp1 J2
  go_wp2_with fail
  go_region_with ((go_at_call 53; refine (Hp1.out 1).mono ?_; rintro e w' ⟨rfl, rfl⟩))
  have J3 := (HJ2.out.step ((Gr.refl W2).drewN 1)).put 16 (Lib.beBytes 4 (subLo la lb)) (by simp [length_beBytes])
  clear HJ2 Hp1
  generalize (((W2.drewN 1).alloc (.cells #[] 147)).setCells (w.heap.size + 1 + 1 + 1) 16 (idV (Lib.beBytes 4 (subLo la lb)))) = W3 at J3 ⊢
  clear W2
  have hbor1 : bor1 la lb ≤ 1 := by unfold bor1; split <;> omega
  have hwb : IntKind.u64.wrap (bor1 la lb : Int) = (bor1 la lb : Int) := by
    have : bor1 la lb = 0 ∨ bor1 la lb = 1 := by omega
    rcases this with e | e <;> rw [e] <;> decide
  have hbor2 : bor2 la lb ≤ 1 := by unfold bor2; split <;> omega
  have hmd : subMid la lb < 18446744073709551616 := Nat.mod_lt _ (by decide)
  have hhi : subHi la lb < 18446744073709551616 := Nat.mod_lt _ (by decide)
  have ca4 : ∀ k os, Calls Yba.prog 55 #[.agg #[], .slice (some ⟨w.heap.size, 8, none⟩) 12 12] (grow (W3.drewN k) os) fun e w' => e = .returned (.int .u64 (mid64 la : Int)) ∧ Gr (grow (W3.drewN k) os) w' := fun k os =>
    uint64_at w.heap.size 8 12 12 ((la.drop 8).take 8) (grow (W3.drewN k) os) (by simp; omega) (by decide) ((J3.step ((Gr.refl W3).grown k os)).hA.ids 8 8)
  have cb4 : ∀ k os, Calls Yba.prog 55 #[.agg #[], .slice (some ⟨w.heap.size + 1, 8, none⟩) 12 12] (grow (W3.drewN k) os) fun e w' => e = .returned (.int .u64 (mid64 lb : Int)) ∧ Gr (grow (W3.drewN k) os) w' := fun k os =>
    uint64_at (w.heap.size + 1) 8 12 12 ((lb.drop 8).take 8) (grow (W3.drewN k) os) (by simp; omega) (by decide) ((J3.step ((Gr.refl W3).grown k os)).hB.ids 8 8)
  have cs4 : ∀ k os, (callFunc 54 #[.int .u64 (mid64 la : Int), .int .u64 (mid64 lb : Int), .int .u64 (bor1 la lb : Int)]).run Yba.prog (grow (W3.drewN k) os) = .ok (.value (.tuple #[.int .u64 (subMid la lb : Int), .int .u64 (bor2 la lb : Int)])) (grow (W3.drewN k) os) := fun k os =>
    run_sub64' (mid64 la) (mid64 lb) (bor1 la lb) hbor1 _
  have Ha4 := hide ca4
  have Hb4 := hide cb4
  have HJ4 := hide J3
  clear ca4 cb4 J3
  go_wp2_with fail
  refine wp_region_quiet_grown (by assumption) (by kernel_rfl) ?_
  iterate 2 quiet_step (fail)
  quiet_step ((go_at_call 55; refine Calls.grown_of' (Ha4.out _ _)))
  iterate 2 quiet_step (fail)
  quiet_step ((go_at_call 55; refine Calls.grown_of' (Hb4.out _ _)))
  repeat (quiet_step (fail))
  refine wpQuiet_nil ?_
  intro _ hw'
  obtain ⟨⟨nq, osq⟩, hw''⟩ := hw'
  subst hw''
  have J3' := HJ4.out.step ((Gr.refl W3).grown nq osq)
  clear HJ4 Ha4 Hb4 cs4
  generalize grow (W3.drewN nq) osq = W4 at J3' ⊢
  clear W3 nq osq
  have cp5 := fun q => put64_at (w.heap.size + 1 + 1 + 1) 8 12 12 (subMid la lb) _ 37 (W4.drewN q) hmd (by decide) (J3'.hD.drewN q) (by simp [idV, length_beBytes])
  have Hp5 := hide cp5
  have HQ5 := hide J3'
  clear cp5 J3'
  go_wp2_with fail
  go_region_with ((go_at_call 56; refine (Hp5.out 1).mono ?_; rintro e w' ⟨rfl, rfl⟩))
  have J5 := (HQ5.out.step ((Gr.refl W4).drewN 1)).put 8 (Lib.beBytes 8 (subMid la lb)) (by simp [length_beBytes])
  clear HQ5 Hp5
  generalize (((W4.drewN 1).alloc (.cells #[] 147)).setCells (w.heap.size + 1 + 1 + 1) 8 (idV (Lib.beBytes 8 (subMid la lb)))) = W5 at J5 ⊢
  clear W4
  obtain ⟨bo3, hbo3⟩ : ∃ b : Nat, b = if hi64 la < hi64 lb + bor2 la lb then 1 else 0 := ⟨_, rfl⟩
  have ca6 : ∀ k os, Calls Yba.prog 55 #[.agg #[], .slice (some ⟨w.heap.size, 0, none⟩) 8 20] (grow (W5.drewN k) os) fun e w' => e = .returned (.int .u64 (hi64 la : Int)) ∧ Gr (grow (W5.drewN k) os) w' := fun k os =>
    uint64_at w.heap.size 0 8 20 ((la.drop 0).take 8) (grow (W5.drewN k) os) (by simp; omega) (by decide) ((J5.step ((Gr.refl W5).grown k os)).hA.ids 0 8)
  have cb6 : ∀ k os, Calls Yba.prog 55 #[.agg #[], .slice (some ⟨w.heap.size + 1, 0, none⟩) 8 20] (grow (W5.drewN k) os) fun e w' => e = .returned (.int .u64 (hi64 lb : Int)) ∧ Gr (grow (W5.drewN k) os) w' := fun k os =>
    uint64_at (w.heap.size + 1) 0 8 20 ((lb.drop 0).take 8) (grow (W5.drewN k) os) (by simp; omega) (by decide) ((J5.step ((Gr.refl W5).grown k os)).hB.ids 0 8)
  have cs6 : ∀ k os, (callFunc 54 #[.int .u64 (hi64 la : Int), .int .u64 (hi64 lb : Int), .int .u64 (bor2 la lb : Int)]).run Yba.prog (grow (W5.drewN k) os) = .ok (.value (.tuple #[.int .u64 (subHi la lb : Int), .int .u64 (bo3 : Int)])) (grow (W5.drewN k) os) := fun k os =>
    by rw [hbo3]; exact run_sub64' (hi64 la) (hi64 lb) (bor2 la lb) hbor2 _
  clear hbo3
  have Ha6 := hide ca6
  have Hb6 := hide cb6
  have HJ6 := hide J5
  clear ca6 cb6 J5
  go_wp2_with fail
  refine wp_region_quiet_grown (by assumption) (by kernel_rfl) ?_
  iterate 2 quiet_step (fail)
  quiet_step ((go_at_call 55; refine Calls.grown_of' (Ha6.out _ _)))
  iterate 2 quiet_step (fail)
  quiet_step ((go_at_call 55; refine Calls.grown_of' (Hb6.out _ _)))
  repeat (quiet_step (fail))
  refine wpQuiet_nil ?_
  intro _ hw'
  obtain ⟨⟨nq, osq⟩, hw''⟩ := hw'
  subst hw''
  have J5' := HJ6.out.step ((Gr.refl W5).grown nq osq)
  clear HJ6 Ha6 Hb6 cs6
  generalize grow (W5.drewN nq) osq = W6 at J5' ⊢
  clear W5 nq osq
  have cp7 := fun q => put64_at (w.heap.size + 1 + 1 + 1) 0 8 20 (subHi la lb) _ 37 (W6.drewN q) hhi (by decide) (J5'.hD.drewN q) (by simp [idV, length_beBytes])
  have Hp7 := hide cp7
  have HQ7 := hide J5'
  clear cp7 J5'
  go_wp2_with fail
  go_region_with ((go_at_call 56; refine (Hp7.out 1).mono ?_; rintro e w' ⟨rfl, rfl⟩))
  have J7 := (HQ7.out.step ((Gr.refl W6).drewN 1)).put 0 (Lib.beBytes 8 (subHi la lb)) (by simp [length_beBytes])
  clear HQ7 Hp7
  generalize (((W6.drewN 1).alloc (.cells #[] 147)).setCells (w.heap.size + 1 + 1 + 1) 0 (idV (Lib.beBytes 8 (subHi la lb)))) = W7 at J7 ⊢
  clear W6
  have hdl : (((List.replicate 20 (0 : UInt8)).take 16 ++ Lib.beBytes 4 (subLo la lb) ++ (List.replicate 20 (0 : UInt8)).drop (16 + (Lib.beBytes 4 (subLo la lb)).length)).take 8 ++ Lib.beBytes 8 (subMid la lb) ++ ((List.replicate 20 (0 : UInt8)).take 16 ++ Lib.beBytes 4 (subLo la lb) ++ (List.replicate 20 (0 : UInt8)).drop (16 + (Lib.beBytes 4 (subLo la lb)).length)).drop (8 + (Lib.beBytes 8 (subMid la lb)).length)).take 0 ++ Lib.beBytes 8 (subHi la lb) ++
      (((List.replicate 20 (0 : UInt8)).take 16 ++ Lib.beBytes 4 (subLo la lb) ++ (List.replicate 20 (0 : UInt8)).drop (16 + (Lib.beBytes 4 (subLo la lb)).length)).take 8 ++ Lib.beBytes 8 (subMid la lb) ++ ((List.replicate 20 (0 : UInt8)).take 16 ++ Lib.beBytes 4 (subLo la lb) ++ (List.replicate 20 (0 : UInt8)).drop (16 + (Lib.beBytes 4 (subLo la lb)).length)).drop (8 + (Lib.beBytes 8 (subMid la lb)).length)).drop (0 + (Lib.beBytes 8 (subHi la lb)).length) = subL la lb := by
    unfold subL
    simp [length_beBytes, List.drop_append]
  rw [hdl] at J7
  have L7 := hide (idload (by have := J7.hD.ids 0 20; rwa [List.drop_zero, List.take_of_length_le (by rw [length_subL]; exact Nat.le_refl _)] at this) (length_subL la lb))
  have hsz : (idV (subL la lb)).toArray.size = 20 := by simp [length_idV, length_subL]
  have T7 := hide (J7.hR.there 0 20 (by simp [idV]))
  have one : (idV (subL la lb)).toArray.all (·.oneCell') = true := all_oneCell_toArray (by intro v hv; simp only [idV, List.mem_map] at hv; obtain ⟨b, _, rfl⟩ := hv; rfl)
  have hinf : (Yba.prog.info? 37).map (·.size) = some (idV (subL la lb)).toArray.size := by rw [hsz]; kernel_rfl
  have FA : Hid (At (W7.setCells (w.heap.size + 1 + 1) 0 (idV (subL la lb))) (w.heap.size + 1 + 1) (idV (subL la lb)).toArray 37 ∧ Gr w (W7.setCells (w.heap.size + 1 + 1) 0 (idV (subL la lb)))) := by
    refine ⟨?_, Gr.setCells _ (by omega) _ _ _ J7.gr⟩
    have := At.setCells (idV (subL la lb)) 0 _ _ J7.hR (by simp [length_idV, length_subL])
    rw [List.take_zero, List.nil_append, List.drop_eq_nil_of_le (by simp [length_idV, length_subL]), List.append_nil] at this
    exact this
  have T8 : Hid (W7.there (w.heap.size + 1 + 1) 0 (idV (subL la lb)).toArray.size) := by rw [hsz]; exact T7.out
  have H1 := hide one
  have H2 := hide hinf
  clear one hinf J7 hdl T7
  generalize hsl : subL la lb = sl at *
  have HSl := hide hsl
  clear hsl
  go_wp2_with (first | refine wpList_load_run rfl 37 _ rfl (w.heap.size + 1 + 1 + 1) 0 rfl _ L7.out ?_ | refine wpList_store_mid rfl 37 _ _ rfl (w.heap.size + 1 + 1) 0 _ rfl rfl T8.out H2.out H1.out ?_)
  refine bodyPost_ret_by (results_cell_row (P := Yba.prog) (p := 4) (ty := 37) rfl _ _ (w.heap.size + 1 + 1) 37 (idV sl).toArray _ _ rfl FA.out.1 Yba.underlying37 rfl H2.out) rfl ?_
  exact ⟨by rw [HSl.out], FA.out.2⟩
end Go.Proofs.Ybulkapqu
