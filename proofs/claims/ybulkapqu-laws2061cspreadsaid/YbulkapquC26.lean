import Derived.Test.YbulkapquC25
namespace Go.Proofs.Ybulkapqu
open Go.RowKit Go.Sort

theorem At.lput {w : World} {b : Nat} {t : TypeId} {l0 l : List Value} (h : At w b l0.toArray t) (hl : l.length = l0.length) : At (w.setCells b 0 l) b l.toArray t := by
  have := At.setCells l 0 w l0 h (by omega)
  rw [List.take_zero, List.nil_append, List.drop_eq_nil_of_le (by omega), List.append_nil] at this
  exact this
theorem At.lall {w : World} {b : Nat} {l : List Value} {t : TypeId} (h : At w b l.toArray t) : w.rangeAt b 0 l := fun j v hv => by
  rw [h.cell, Nat.zero_add]
  simpa using hv
theorem idV_one (l : List UInt8) : ∀ v ∈ idV l, v.oneCell' = true := fun v hv => by
  unfold idV at hv
  obtain ⟨b, _, rfl⟩ := List.mem_map.1 hv
  rfl
def leafV (l : List UInt8) : List Value := idV l ++ [.int .i64 2, .slice none 0 0, .slice none 0 0]
def tabV (l : List UInt8) : List Value := idV l ++ [.slice none 0 0]
def rsV (l : List UInt8) : List Value := leafV l ++ (tabV l ++ [.pointer none, .slice none 0 0, .slice none 0 0])
theorem length_leafV (l : List UInt8) (hl : l.length = 20) : (leafV l).length = 23 := by simp [leafV, length_idV, hl]
theorem length_tabV (l : List UInt8) (hl : l.length = 20) : (tabV l).length = 21 := by simp [tabV, length_idV, hl]
theorem length_rsV (l : List UInt8) (hl : l.length = 20) : (rsV l).length = 47 := by simp [rsV, length_leafV l hl, length_tabV l hl]
theorem leafV_one (l : List UInt8) : ∀ v ∈ leafV l, v.oneCell' = true := fun v hv => by
  rcases List.mem_append.1 hv with h | h
  · exact idV_one l v h
  · simp at h; rcases h with rfl | rfl <;> rfl
theorem tabV_one (l : List UInt8) : ∀ v ∈ tabV l, v.oneCell' = true := fun v hv => by
  rcases List.mem_append.1 hv with h | h
  · exact idV_one l v h
  · simp at h; subst h; rfl
theorem rsV_one (l : List UInt8) : ∀ v ∈ rsV l, v.oneCell' = true := fun v hv => by
  rcases List.mem_append.1 hv with h | h
  · exact leafV_one l v h
  · rcases List.mem_append.1 h with h | h
    · exact tabV_one l v h
    · simp at h; rcases h with rfl | rfl <;> rfl
set_option maxRecDepth 100000 in
theorem built101' (b0 b1 b2 b3 b4 b5 b6 b7 b8 b9 b10 b11 b12 b13 b14 b15 b16 b17 b18 b19 : UInt8) : Yba.prog.built 101 [(0, .agg (idV [b0, b1, b2, b3, b4, b5, b6, b7, b8, b9, b10, b11, b12, b13, b14, b15, b16, b17, b18, b19]).toArray), (1, .int .i64 2)] = some (leafV [b0, b1, b2, b3, b4, b5, b6, b7, b8, b9, b10, b11, b12, b13, b14, b15, b16, b17, b18, b19]).toArray := by kernel_rfl
theorem built101 (l : List UInt8) (hl : l.length = 20) : Yba.prog.built 101 [(0, .agg (idV l).toArray), (1, .int .i64 2)] = some (leafV l).toArray := by
  match l, hl with
  | [b0, b1, b2, b3, b4, b5, b6, b7, b8, b9, b10, b11, b12, b13, b14, b15, b16, b17, b18, b19], _ => exact built101' b0 b1 b2 b3 b4 b5 b6 b7 b8 b9 b10 b11 b12 b13 b14 b15 b16 b17 b18 b19
set_option maxRecDepth 100000 in
theorem built103' (b0 b1 b2 b3 b4 b5 b6 b7 b8 b9 b10 b11 b12 b13 b14 b15 b16 b17 b18 b19 : UInt8) : Yba.prog.built 103 [(0, .agg (idV [b0, b1, b2, b3, b4, b5, b6, b7, b8, b9, b10, b11, b12, b13, b14, b15, b16, b17, b18, b19]).toArray)] = some (tabV [b0, b1, b2, b3, b4, b5, b6, b7, b8, b9, b10, b11, b12, b13, b14, b15, b16, b17, b18, b19]).toArray := by kernel_rfl
theorem built103 (l : List UInt8) (hl : l.length = 20) : Yba.prog.built 103 [(0, .agg (idV l).toArray)] = some (tabV l).toArray := by
  match l, hl with
  | [b0, b1, b2, b3, b4, b5, b6, b7, b8, b9, b10, b11, b12, b13, b14, b15, b16, b17, b18, b19], _ => exact built103' b0 b1 b2 b3 b4 b5 b6 b7 b8 b9 b10 b11 b12 b13 b14 b15 b16 b17 b18 b19
set_option maxRecDepth 100000 in
theorem built107' (b0 b1 b2 b3 b4 b5 b6 b7 b8 b9 b10 b11 b12 b13 b14 b15 b16 b17 b18 b19 : UInt8) : Yba.prog.built 107 [(0, .agg (leafV [b0, b1, b2, b3, b4, b5, b6, b7, b8, b9, b10, b11, b12, b13, b14, b15, b16, b17, b18, b19]).toArray), (1, .agg (tabV [b0, b1, b2, b3, b4, b5, b6, b7, b8, b9, b10, b11, b12, b13, b14, b15, b16, b17, b18, b19]).toArray)] = some (rsV [b0, b1, b2, b3, b4, b5, b6, b7, b8, b9, b10, b11, b12, b13, b14, b15, b16, b17, b18, b19]).toArray := by kernel_rfl
theorem built107 (l : List UInt8) (hl : l.length = 20) : Yba.prog.built 107 [(0, .agg (leafV l).toArray), (1, .agg (tabV l).toArray)] = some (rsV l).toArray := by
  match l, hl with
  | [b0, b1, b2, b3, b4, b5, b6, b7, b8, b9, b10, b11, b12, b13, b14, b15, b16, b17, b18, b19], _ => exact built107' b0 b1 b2 b3 b4 b5 b6 b7 b8 b9 b10 b11 b12 b13 b14 b15 b16 b17 b18 b19

def z101 : List Value := idV z20 ++ [.int .i64 0, .slice none 0 0, .slice none 0 0]
theorem z101_eq : (z101).toArray = #[.int .u8 0, .int .u8 0, .int .u8 0, .int .u8 0, .int .u8 0, .int .u8 0, .int .u8 0, .int .u8 0, .int .u8 0, .int .u8 0, .int .u8 0, .int .u8 0, .int .u8 0, .int .u8 0, .int .u8 0, .int .u8 0, .int .u8 0, .int .u8 0, .int .u8 0, .int .u8 0, .int .i64 0, .slice none 0 0, .slice none 0 0] := rfl
set_option maxHeartbeats 4000000 in
set_option maxRecDepth 1000000 in
theorem newLeafSet_calls (w : World) (l : List UInt8) (hl : l.length = 20) : Calls Yba.prog 58 #[.agg (idV l).toArray, .int .i64 2] w fun e w' => e = .returned (.agg (leafV l).toArray) ∧ Gr w w' := by
  obtain ⟨S, hS⟩ : ∃ S, S = w.heap.size := ⟨_, rfl⟩
  obtain ⟨w1, hw1⟩ : ∃ w1, w1 = (w.alloc (.cells (idV l).toArray 37)).alloc (.cells (z101).toArray 101) := ⟨_, rfl⟩
  have g1 : Gr w w1 := by rw [hw1]; exact ((Gr.refl w).alloc _).alloc _
  have aI : At w1 S (idV l).toArray 37 := by rw [hw1, hS]; exact (At.new w _ _).alloc _
  have aZ : At w1 (S + 1) (z101).toArray 101 := by
    have := At.new (w.alloc (.cells (idV l).toArray 37)) (z101).toArray 101
    rw [World.size_alloc, ← hS] at this
    rw [hw1]; exact this
  have hzl : (z101).length = 23 := rfl
  have L1 := hide (idload aI.all hl)
  have HBu := hide (built101 l hl)
  have T1 : Hid (w1.there (S + 1) 0 (leafV l).toArray.size) := by
    have := At.there aZ 0 23 (by rw [hzl]; omega)
    have e : (leafV l).toArray.size = 23 := by simp [length_leafV l hl]
    show w1.there _ _ _
    rw [e]; exact this
  have HO := hide (all_oneCell_toArray (leafV_one l))
  have HN : Hid ((Yba.prog.info? 101).map (·.size) = some (leafV l).toArray.size) := by
    have e : (leafV l).toArray.size = 23 := by simp [length_leafV l hl]
    show (Yba.prog.info? 101).map (·.size) = _
    rw [e]; kernel_rfl
  have HR := hide (aZ.lput (l := leafV l) (by rw [hzl, length_leafV l hl]))
  have HG : Hid (Gr w (w1.setCells (S + 1) 0 (leafV l))) := Gr.setCells _ (by omega) _ _ _ g1
  have HW := hide hw1
  have HS := hide hS
  have HZ := hide z101_eq
  clear hw1 hS g1 aI aZ
  go_enter Yba.func58, Yba.ntmps58
  go_upto_region 1 with fail
  rw [← HZ.out, ← HW.out, ← HS.out]
  go_wp2_with (first | refine wpList_load_run rfl 37 _ rfl S 0 rfl _ L1.out ?_ | refine wpList_build_run rfl 101 _ rfl [(0, .agg (idV l).toArray), (1, .int .i64 2)] (by first | (simp [Act.eval]; done) | (simp [Act.eval, Act.put]; done)) _ HBu.out ?_ | refine wpList_store_mid rfl 101 _ _ rfl (S + 1) 0 _ rfl rfl T1.out HN.out HO.out ?_)
  refine bodyPost_ret_by (results_cell_row (P := Yba.prog) (p := 4) (ty := 101) rfl _ _ (S + 1) 101 (leafV l).toArray _ _ rfl HR.out Yba.underlying101 rfl HN.out) rfl ?_
  exact ⟨rfl, HG.out⟩

def z103 : List Value := idV z20 ++ [.slice none 0 0]
theorem z103_eq : (z103).toArray = #[.int .u8 0, .int .u8 0, .int .u8 0, .int .u8 0, .int .u8 0, .int .u8 0, .int .u8 0, .int .u8 0, .int .u8 0, .int .u8 0, .int .u8 0, .int .u8 0, .int .u8 0, .int .u8 0, .int .u8 0, .int .u8 0, .int .u8 0, .int .u8 0, .int .u8 0, .int .u8 0, .slice none 0 0] := rfl
set_option maxHeartbeats 4000000 in
set_option maxRecDepth 1000000 in
theorem newPrefixTable_calls (w : World) (l : List UInt8) (hl : l.length = 20) : Calls Yba.prog 59 #[.agg (idV l).toArray] w fun e w' => e = .returned (.agg (tabV l).toArray) ∧ Gr w w' := by
  obtain ⟨S, hS⟩ : ∃ S, S = w.heap.size := ⟨_, rfl⟩
  obtain ⟨w1, hw1⟩ : ∃ w1, w1 = (w.alloc (.cells (idV l).toArray 37)).alloc (.cells (z103).toArray 103) := ⟨_, rfl⟩
  have g1 : Gr w w1 := by rw [hw1]; exact ((Gr.refl w).alloc _).alloc _
  have aI : At w1 S (idV l).toArray 37 := by rw [hw1, hS]; exact (At.new w _ _).alloc _
  have aZ : At w1 (S + 1) (z103).toArray 103 := by
    have := At.new (w.alloc (.cells (idV l).toArray 37)) (z103).toArray 103
    rw [World.size_alloc, ← hS] at this
    rw [hw1]; exact this
  have hzl : (z103).length = 21 := rfl
  have L1 := hide (idload aI.all hl)
  have HBu := hide (built103 l hl)
  have T1 : Hid (w1.there (S + 1) 0 (tabV l).toArray.size) := by
    have := At.there aZ 0 21 (by rw [hzl]; omega)
    have e : (tabV l).toArray.size = 21 := by simp [length_tabV l hl]
    show w1.there _ _ _
    rw [e]; exact this
  have HO := hide (all_oneCell_toArray (tabV_one l))
  have HN : Hid ((Yba.prog.info? 103).map (·.size) = some (tabV l).toArray.size) := by
    have e : (tabV l).toArray.size = 21 := by simp [length_tabV l hl]
    show (Yba.prog.info? 103).map (·.size) = _
    rw [e]; kernel_rfl
  have HR := hide (aZ.lput (l := tabV l) (by rw [hzl, length_tabV l hl]))
  have HG : Hid (Gr w (w1.setCells (S + 1) 0 (tabV l))) := Gr.setCells _ (by omega) _ _ _ g1
  have HW := hide hw1
  have HS := hide hS
  have HZ := hide z103_eq
  clear hw1 hS g1 aI aZ
  go_enter Yba.func59, Yba.ntmps59
  go_upto_region 1 with fail
  rw [← HZ.out, ← HW.out, ← HS.out]
  go_wp2_with (first | refine wpList_load_run rfl 37 _ rfl S 0 rfl _ L1.out ?_ | refine wpList_build_run rfl 103 _ rfl [(0, .agg (idV l).toArray)] (by first | (simp [Act.eval]; done) | (simp [Act.eval, Act.put]; done)) _ HBu.out ?_ | refine wpList_store_mid rfl 103 _ _ rfl (S + 1) 0 _ rfl rfl T1.out HN.out HO.out ?_)
  refine bodyPost_ret_by (results_cell_row (P := Yba.prog) (p := 2) (ty := 103) rfl _ _ (S + 1) 103 (tabV l).toArray _ _ rfl HR.out Yba.underlying103 rfl HN.out) rfl ?_
  exact ⟨rfl, HG.out⟩

theorem rs_there {w : World} {b : Nat} {C : Array Value} (h : At w b C 107) (hC : C.size = 47) {l : List UInt8} (hl : l.length = 20) : w.there b 0 (rsV l).toArray.size := by
  have e : (rsV l).toArray.size = 47 := by simp [length_rsV l hl]
  rw [e]
  exact At.there (l := C.toList) h 0 47 (by simp [hC])
theorem rs_put {w : World} {b : Nat} {C : Array Value} (h : At w b C 107) (hC : C.size = 47) {l : List UInt8} (hl : l.length = 20) : At (w.setCells b 0 (rsV l).toArray.toList) b (rsV l).toArray 107 :=
  At.lput (l0 := C.toList) (l := rsV l) h (by simp [hC, length_rsV l hl])
def RH (w : World) (S : Nat) (l : List UInt8) (W : World) : Prop := Gr w W ∧ W.rangeAt S 0 (idV l) ∧ ∃ C, C.size = 47 ∧ At W (S + 1) C 107
theorem RH.step {w : World} {S : Nat} {l : List UInt8} {W W' : World} (h : RH w S l W) (g : Gr W W') : RH w S l W' := by
  obtain ⟨h1, h2, C, h3, h4⟩ := h
  exact ⟨h1.trans g, rangeAt_gr g h2, C, h3, h4.gr g⟩
theorem RH.put {w : World} {S : Nat} {l : List UInt8} {W : World} (h : RH w S l W) (hS : S = w.heap.size) {C : Array Value} (a : At W (S + 1) C 107) (hC : C.size = 47) (hl : l.length = 20) : RH w S l (W.setCells (S + 1) 0 (rsV l).toArray.toList) := by
  refine ⟨Gr.setCells _ (by omega) _ _ _ h.1, fun j v hj => ?_, _, by simp [length_rsV l hl], rs_put a hC hl⟩
  exact cell_of_heap (w := W) (heap_setCells_other _ _ (by show S ≠ S + 1; omega) _ _ _) (h.2.1 j v hj)
def z107 : List Value := z101 ++ (z103 ++ [.pointer none, .slice none 0 0, .slice none 0 0])
theorem z107_eq : (z107).toArray = #[.int .u8 0, .int .u8 0, .int .u8 0, .int .u8 0, .int .u8 0, .int .u8 0, .int .u8 0, .int .u8 0, .int .u8 0, .int .u8 0, .int .u8 0, .int .u8 0, .int .u8 0, .int .u8 0, .int .u8 0, .int .u8 0, .int .u8 0, .int .u8 0, .int .u8 0, .int .u8 0, .int .i64 0, .slice none 0 0, .slice none 0 0, .int .u8 0, .int .u8 0, .int .u8 0, .int .u8 0, .int .u8 0, .int .u8 0, .int .u8 0, .int .u8 0, .int .u8 0, .int .u8 0, .int .u8 0, .int .u8 0, .int .u8 0, .int .u8 0, .int .u8 0, .int .u8 0, .int .u8 0, .int .u8 0, .int .u8 0, .int .u8 0, .slice none 0 0, .pointer none, .slice none 0 0, .slice none 0 0] := rfl
set_option maxHeartbeats 4000000 in
set_option maxRecDepth 1000000 in
theorem newRoutingState_calls (w : World) (l : List UInt8) (hl : l.length = 20) : Calls Yba.prog 37 #[.agg (idV l).toArray, .int .i64 2] w fun e w' => e = .returned (.agg (rsV l).toArray) ∧ Gr w w' := by
  have mixed : Yba.prog.follows .mixedOrders = true := by kernel_rfl
  obtain ⟨S, hS⟩ : ∃ S, S = w.heap.size := ⟨_, rfl⟩
  obtain ⟨w1, hw1⟩ : ∃ w1, w1 = (w.alloc (.cells (idV l).toArray 37)).alloc (.cells (z107).toArray 107) := ⟨_, rfl⟩
  have g1 : Gr w w1 := by rw [hw1]; exact ((Gr.refl w).alloc _).alloc _
  have aI : At w1 S (idV l).toArray 37 := by rw [hw1, hS]; exact (At.new w _ _).alloc _
  have aZ : At w1 (S + 1) (z107).toArray 107 := by
    have := At.new (w.alloc (.cells (idV l).toArray 37)) (z107).toArray 107
    rw [World.size_alloc, ← hS] at this
    rw [hw1]; exact this
  have R1 : RH w S l w1.drew := RH.step ⟨g1, aI.all, _, rfl, aZ⟩ ((Gr.refl w1).drew)
  have H58 := hide (fun W => newLeafSet_calls W l hl)
  have H59 := hide (fun W => newPrefixTable_calls W l hl)
  have HBu := hide (built107 l hl)
  have HO := hide (all_oneCell_toArray (rsV_one l))
  have HN : Hid ((Yba.prog.info? 107).map (·.size) = some (rsV l).toArray.size) := by
    have e : (rsV l).toArray.size = 47 := by simp [length_rsV l hl]
    show (Yba.prog.info? 107).map (·.size) = _
    rw [e]; kernel_rfl
  have hu37 := Yba.underlying37
  have hil : (Yba.prog.info? 37).map (·.size) = some (idV l).length := by rw [length_idV, hl]; kernel_rfl
  have HW := hide hw1
  have HS := hide hS
  have HZ := hide z107_eq
  have HR1 := hide R1
  clear hw1 hS g1 aI aZ R1
  go_enter Yba.func37, Yba.ntmps37
  go_upto_region 1 with fail
  rw [← HZ.out, ← HW.out, ← HS.out]
  refine wp_region_held_drew (S := RH w S l) (by kernel_rfl) HR1.out (fun hHeld => ?_)
  refine wpAnyH_take (i := 0) (v := _) rfl (by kernel_rfl) (by kernel_rfl) (by kernel_rfl) (fun _ _ _ h => h) (yieldsIf_load_mid (by rfl) 37 _ rfl S 0 rfl (idV l) _ (fun W h => h.2.1) hu37 rfl hil) (by assumption) ?_
  refine wpAnyH_take (i := 1) (v := ?_) rfl (by kernel_rfl) (by kernel_rfl) (by kernel_rfl) (fun _ _ _ h => h) (Or.inl ⟨by rfl, ?_⟩) (by assumption) ?_
  rotate_left
  · intro w hSw; go_simp; try with_reducible rfl
  simp only [Act.put, List.getElem_toArray, List.getElem_cons_succ, List.getElem_cons_zero, List.setIfInBounds_toArray, List.set_cons_zero, List.set_cons_succ]
  refine wpAnyH_take (i := 3) (v := _) rfl (by kernel_rfl) (by kernel_rfl) (by kernel_rfl) (fun _ _ _ h => h) (yieldsIf_load_mid (by rfl) 37 _ rfl S 0 rfl (idV l) _ (fun W h => h.2.1) hu37 rfl hil) (by assumption) ?_
  simp only [Act.put, List.getElem_toArray, List.getElem_cons_succ, List.getElem_cons_zero, List.setIfInBounds_toArray, List.set_cons_zero, List.set_cons_succ]
  generalize w1.drew = V0 at hHeld ⊢
  refine wpAnyH_ready (rs := [2]) (by kernel_rfl) (by simp) ?_
  refine (AllReadyH.cons rfl (fun K hK => ?_) AllReadyH.nil)
  go_simp
  go_at_call 58
  refine (H58.out _).mono ?_
  rintro e V1 ⟨rfl, hg⟩
  refine hK.out _ _ (hHeld.step hg) (fun hHeld2 => ?_)
  clear hg
  clear hHeld hK K
  have hHeld := hHeld2
  clear hHeld2
  refine wpAnyH_ready (rs := [4]) (by kernel_rfl) (by simp) ?_
  refine (AllReadyH.cons rfl (fun K hK => ?_) AllReadyH.nil)
  go_simp
  go_at_call 59
  refine (H59.out _).mono ?_
  rintro e V2 ⟨rfl, hg⟩
  refine hK.out _ _ (hHeld.step hg) (fun hHeld2 => ?_)
  clear hg
  clear hHeld hK K
  have hHeld := hHeld2
  clear hHeld2
  refine wpAnyH_ready (rs := [5]) (by kernel_rfl) (by simp) ?_
  refine (AllReadyH.cons rfl (fun K hK => ?_) AllReadyH.nil)
  rw [if_pos (by rfl)]
  refine wp_build_run 107 _ rfl [(0, .agg (leafV l).toArray), (1, .agg (tabV l).toArray)] (by simp [Act.eval]) _ HBu.out ?_
  refine hK.out _ _ hHeld (fun hHeld2 => ?_)
  clear hHeld hK K
  have hHeld := hHeld2
  clear hHeld2
  refine wpAnyH_ready (rs := [6]) (by kernel_rfl) (by simp) ?_
  refine (AllReadyH.cons rfl (fun K hK => ?_) AllReadyH.nil)
  rw [if_pos (by rfl)]
  obtain ⟨C, hC47, hCat⟩ := hHeld.2.2
  refine wp_store_mid 107 _ _ rfl (S + 1) 0 _ rfl rfl (rs_there hCat hC47 hl) HN.out HO.out ?_
  have hfin := rs_put hCat hC47 hl
  refine hK.out _ _ (hHeld.put HS.out hCat hC47 hl) (fun hHeld2 => ?_)
  clear hCat hC47
  clear hHeld hK K
  have hHeld := hHeld2
  clear hHeld2
  refine wpAnyH_done (by kernel_rfl) ?_ _
  go_wp2
  refine bodyPost_ret_by (results_cell_row (P := Yba.prog) (p := 4) (ty := 107) rfl _ _ (S + 1) 107 (rsV l).toArray _ _ rfl hfin Yba.underlying107 rfl HN.out) rfl ?_
  exact ⟨rfl, hHeld.1⟩
end Go.Proofs.Ybulkapqu
