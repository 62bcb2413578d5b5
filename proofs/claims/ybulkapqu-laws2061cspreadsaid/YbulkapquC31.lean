import Derived.Test.YbulkapquC30
namespace Go.Proofs.Ybulkapqu
open Go.RowKit Go.Sort

set_option maxHeartbeats 4000000 in
set_option maxRecDepth 1000000 in
theorem newMembership_calls (w : World) (self : List UInt8) (hs : self.length = 20) (LB TR x f t base nr : Nat) (hf : f ≤ 2) (hnr : nr = if f < t then 2 else 1) (hL : At w LB (layV x f t) 51) (hbase : base ≤ w.heap.size) :
    Calls Yba.prog 21 #[.agg (idV self).toArray, .int .u64 1, .int .i64 2, .pointer (some ⟨LB, 0, none⟩), .iface 52 (.pointer (some ⟨TR, 0, none⟩)), .pointer none] w fun e w' =>
      ∃ MB RB SU WA D v, e = .returned (.pointer (some ⟨MB, 0, none⟩)) ∧ Gr w w' ∧ Mb (newCfg MB RB LB SU WA nr x f t self) D TR [] v w' ∧ Rows w' base v (ids0 nr self) ∧ w.heap.size ≤ RB ∧ w.heap.size ≤ SU ∧ w.heap.size ≤ D := by
  have mixed : Yba.prog.follows .mixedOrders = true := by kernel_rfl
  have hnr1 : 0 < nr := by rw [hnr]; split <;> omega
  have hnr2 : nr ≤ 2 := by rw [hnr]; split <;> omega
  have hni : (if (t : Int) > (f : Int) then 2 else 1 : Int) = (nr : Int) := by
    rw [hnr]
    by_cases e : f < t
    · rw [if_pos e, if_pos (by omega)]; rfl
    · rw [if_neg e, if_neg (by omega)]; rfl
  obtain ⟨net, hnet⟩ : ∃ net : Value, net = .iface 52 (.pointer (some ⟨TR, 0, none⟩)) := ⟨_, rfl⟩
  obtain ⟨S, hS⟩ : ∃ S, S = w.heap.size := ⟨_, rfl⟩
  obtain ⟨E, T0, hE, hT⟩ := builtMem TR self hs
  obtain ⟨M0, hM0⟩ : ∃ M0, M0 = (memV net self (.slice none 0 0) z79 T0) := ⟨_, rfl⟩
  obtain ⟨w3, hw3⟩ : ∃ w3, w3 = ((w.alloc (.cells (idV self).toArray 37)).alloc (.cells M0.toArray 98)).alloc (.cells #[.int .i64 0, .int .i64 0, .int .i64 0] 51) := ⟨_, rfl⟩
  have g3 : Gr w w3 := by rw [hw3]; exact (((Gr.refl w).alloc _).alloc _).alloc _
  have aI3 : At w3 S (idV self).toArray 37 := by rw [hw3, hS]; exact ((At.new w _ _).alloc _).alloc _
  have aM3 : At w3 (S + 1) M0.toArray 98 := by
    have := At.new (w.alloc (.cells (idV self).toArray 37)) M0.toArray 98
    rw [World.size_alloc, ← hS] at this
    rw [hw3]; exact this.alloc _
  have aL3 : At w3 (S + 1 + 1) (layV 0 0 0) 51 := by
    have := At.new ((w.alloc (.cells (idV self).toArray 37)).alloc (.cells M0.toArray 98)) (layV 0 0 0) 51
    rw [World.size_alloc, World.size_alloc, ← hS] at this
    rw [hw3]; exact this
  have l3 := hL.gr g3
  obtain ⟨w4, hw4⟩ : ∃ w4, w4 = ((w3.setCell ⟨S + 1 + 1, 0, none⟩ (.int .i64 x)).setCell ⟨S + 1 + 1, 1, none⟩ (.int .i64 f)).setCell ⟨S + 1 + 1, 2, none⟩ (.int .i64 t) := ⟨_, rfl⟩
  have N4 : NMb w S self net (layV x f t) (.slice none 0 0) z79 w4 := by
    have hle : w.heap.size ≤ S + 1 + 1 := by omega
    rw [hw4]
    refine ⟨((g3.setCell _ _ hle).setCell _ _ hle).setCell _ _ hle, ((aI3.setOther _ _ ?_).setOther _ _ ?_).setOther _ _ ?_, ⟨T0, by rw [← hM0]; exact ((aM3.setOther _ _ (by show S + 1 ≠ S + 1 + 1; omega)).setOther _ _ (by show S + 1 ≠ S + 1 + 1; omega)).setOther _ _ (by show S + 1 ≠ S + 1 + 1; omega)⟩, ?_⟩
    iterate 3 (show S ≠ S + 1 + 1; omega)
    have := ((aL3.set 0 (.int .i64 x)).set 1 (.int .i64 f)).set 2 (.int .i64 t)
    simpa [layV] using this
  have l0 := l3.cell 0
  have l1 := l3.cell 1
  have l2 := l3.cell 2
  have z0 := aL3.cell 0
  have z1 := aL3.cell 1
  have z2 := aL3.cell 2
  have f0 := aL3.frozen 0
  have f1 := aL3.frozen 1
  have f2 := aL3.frozen 2
  simp [layV] at l0 l1 l2 z0 z1 z2
  have L1 : Hid ((loadVar 37 ⟨w.heap.size, 0, none⟩).run Yba.prog (w.alloc (.cells (idV self).toArray 37)) = .ok (.agg (idV self).toArray) (w.alloc (.cells (idV self).toArray 37))) := idload (At.new w _ _).all hs
  have HBe := hide hE
  rw [← hnet, ← hM0] at hT
  have HBm := hide hT
  clear hE hT
  have HW3 := hide hw3
  have HW4 := hide hw4
  have HS := hide hS
  have HNet := hide hnet
  have HM0 := hide hM0
  have HN4 := hide N4
  have HL := hide hL
  have HNr := hide (And.intro hnr (And.intro hni hbase))
  clear hw3 hw4 hS hM0 N4 hL hnr hni hbase g3 aI3 aM3 aL3 l3
  rw [← hnet]
  clear hnet
  go_enter Yba.func21, Yba.ntmps21
  go_upto_region 3 with (first | refine wpList_load_run rfl 37 _ rfl w.heap.size 0 rfl _ L1.out ?_ | refine wpList_build_run rfl 94 _ rfl [(0, .int .u8 18), (2, .agg (idV self).toArray)] (by first | (simp [Act.eval]; done) | (simp [Act.eval, Act.put]; done)) _ HBe.out ?_ | refine wpList_build_run rfl 98 _ rfl [(0, net), (1, .agg (idV self).toArray), (5, .int .u64 1), (6, .pointer none), (8, .agg (E).toArray)] (by first | (simp [Act.eval]; done) | (simp [Act.eval, Act.put]; done)) _ HBm.out ?_)
  rw [← HW3.out, ← HS.out]
  clear L1 HBe HBm HW3
  go_upto_region 5 with fail
  rw [← HW4.out]
  clear l0 l1 l2 z0 z1 z2 f0 f1 f2 HW4
  have H35 := rings_calls w4 (x : Int) (f : Int) (t : Int)
  rw [HNr.out.2.1] at H35
  have H35 : Hid (Calls Yba.prog 35 #[.agg #[.int .i64 (x : Int), .int .i64 (f : Int), .int .i64 (t : Int)]] w4 fun e w' => e = .returned (.int .i64 (nr : Int)) ∧ Gr w4 w') := H35
  have k0 := HN4.out.l.cell 0
  have k1 := HN4.out.l.cell 1
  have k2 := HN4.out.l.cell 2
  simp [layV] at k0 k1 k2
  go_wp2_with fail
  refine H35.out.mono ?_
  rintro e w5 ⟨rfl, g5⟩
  obtain ⟨C, hCs, hC⟩ := mk_rings nr hnr2 w5
  obtain ⟨RB, hRB⟩ : ∃ RB, RB = w5.heap.size := ⟨_, rfl⟩
  have N5 := HN4.out.step (g5.alloc (.cells C 107))
  have hRBl : S + 1 + 1 < RB := by rw [hRB]; exact Nat.lt_of_lt_of_le HN4.out.l.lt g5.size
  have c21 := N5.c21 hs
  have f21 := N5.f21 21
  obtain ⟨w7, hw7⟩ : ∃ w7, w7 = (w5.alloc (.cells C 107)).setCell ⟨S + 1, 21, none⟩ (.slice (some ⟨RB, 0, none⟩) nr nr) := ⟨_, rfl⟩
  have N7 : NMb w S self net (layV x f t) (.slice (some ⟨RB, 0, none⟩) nr nr) z79 w7 := by rw [hw7]; exact N5.rings HS.out hs _
  have R7 : At w7 RB C 107 := by
    rw [hw7]
    refine At.setOther ?_ _ _ (by show RB ≠ S + 1; omega)
    rw [hRB]; exact At.new w5 C 107
  have HC := hide hC
  have HRB := hide hRB
  have HW7 := hide hw7
  have HN7 := hide N7
  have HR7 := hide R7
  clear hC hRB hw7 N7 R7 N5 g5 H35 HN4 k0 k1 k2
  go_upto_region 6 with (first | refine wpList_makeSlice_run rfl 62 _ rfl nr rfl C _ HC.out ?_)
  rw [← HRB.out, ← HW7.out]
  clear c21 f21 HC HRB HW7
  have q21 := HN7.out.c21 hs
  have H36 := hide (newKeeping_calls w7 nr hnr2)
  go_wp2_with fail
  refine H36.out.mono ?_
  rintro e w8 ⟨st, de, su, wa, p5, p7, e8, i9, s11, rfl, g8, ms, md, mu, mw, ls, ld, lu, lw, n12, n13, n14, n23, n24, n34⟩
  obtain ⟨V, hV⟩ : ∃ V, V = keepV nr st de su wa p5 p7 e8 i9 s11 z20 := ⟨_, rfl⟩
  have hVl : V.length = 39 := by rw [hV]; exact length_keepV _ _ _ _ _ _ _ _ _ _ _ rfl
  have hVo : ∀ v ∈ V, v.oneCell' = true := by rw [hV]; exact keepV_one _ _ _ _ _ _ _ _ _ _ _
  have N8 := HN7.out.step g8
  have R8 := HR7.out.gr g8
  have hz : (z79).length = 39 := rfl
  have e39 : V.toArray.size = 39 := by simp [hVl]
  have T8 : Hid (w8.there (S + 1) 26 V.toArray.size) := by
    show w8.there _ _ _
    rw [e39]; exact N8.there hs 26 39 (by rw [hz]; omega)
  have HN79 : Hid ((Yba.prog.info? 79).map (·.size) = some V.toArray.size) := by
    show (Yba.prog.info? 79).map (·.size) = _
    rw [e39]; exact info79
  have HO79 := hide (all_oneCell_toArray hVo)
  obtain ⟨w9, hw9⟩ : ∃ w9, w9 = w8.setCells (S + 1) 26 V := ⟨_, rfl⟩
  have N9 := N8.keep HS.out hs V (hVl.trans hz.symm)
  rw [← hw9] at N9
  obtain ⟨w10, hw10⟩ : ∃ w10, w10 = w9.setCells (S + 1) 43 (idV self) := ⟨_, rfl⟩
  have N9' := N9
  rw [hV] at N9'
  have N10 := N9'.rev HS.out hs
  rw [← hw10] at N10
  obtain ⟨K, hK⟩ : ∃ K, K = keepV nr st de su wa p5 p7 e8 i9 s11 self := ⟨_, rfl⟩
  rw [← hK] at N10
  have hK0 : K[0]? = some (.int .i64 0) := by rw [hK]; rfl
  have hK1 : K[1]? = some (.map (some st)) := by rw [hK]; rfl
  have hK2 : K[2]? = some (.map (some de)) := by rw [hK]; rfl
  have hK3 : K[3]? = some (.map (some su)) := by rw [hK]; rfl
  have hK4 : K[4]? = some (.map (some wa)) := by rw [hK]; rfl
  have hM : ∀ {r : Nat} {es : List (List UInt8 × Value)}, MapAt w8 r es → MapAt w10 r es := fun {r es} h => by
    obtain ⟨T, a⟩ := N8.m
    obtain ⟨T', a'⟩ := N9.m
    rw [hw10, hw9]
    rw [hw9] at a'
    exact (h.sets a _ _).sets a' _ _
  have ms := hM ms
  have md := hM md
  have mu := hM mu
  have mw := hM mw
  have R10 : At w10 RB C 107 := by rw [hw10, hw9]; exact (R8.setsOther (by omega) _ _).setsOther (by omega) _ _
  have L9 := hide (idload N9.i.all hs)
  have T9 : Hid (w9.there (S + 1) 43 (idV self).toArray.size) := by
    have := N9.there hs 43 20 (by rw [hVl]; omega)
    show w9.there _ _ _
    rw [show (idV self).toArray.size = 20 by simp [length_idV, hs]]; exact this
  have HN37 : Hid ((Yba.prog.info? 37).map (·.size) = some (idV self).toArray.size) := by
    show (Yba.prog.info? 37).map (·.size) = _
    rw [show (idV self).toArray.size = 20 by simp [length_idV, hs]]; kernel_rfl
  have HO37 := hide (all_oneCell_toArray (idV_one self))
  have HR10 := hide R10
  have HN10 := hide N10
  have HMs := hide (And.intro md (And.intro mu mw))
  have HNs := hide (And.intro n23 (And.intro n24 n34))
  have HK := hide (And.intro hK0 (And.intro hK1 (And.intro hK2 (And.intro hK3 hK4))))
  have hst : w.heap.size ≤ st := Nat.le_trans HN7.out.gr.size (Nat.le_of_lt ls)
  have HLe := hide (And.intro (Nat.le_trans HN7.out.gr.size (Nat.le_of_lt lu)) (Nat.le_trans HN7.out.gr.size (Nat.le_of_lt ld)))
  have HSt := hide (And.intro ms (And.intro hst (And.intro n12 (And.intro n13 n14))))
  have HW9 := hide hw9
  have HW10 := hide hw10
  have HV := hide hV
  clear hw9 hw10 hM ms md mu mw R10 N10 N9 N9' N8 R8 g8 ls ld lu lw n12 n13 n14 n23 n24 n34 hK hK0 hK1 hK2 hK3 hK4 hst hVl hVo hz e39 HN7 HR7 H36 q21 hV
  rw [← HV.out]
  go_upto_region 7 with (first | refine wpList_store_mid rfl 79 _ _ rfl (S + 1) 26 _ rfl rfl T8.out HN79.out HO79.out ?_)
  first | rw [← HW9.out] | (simp only [List.toList_toArray]; rw [← HW9.out])
  clear T8 HN79 HO79
  go_upto_region 9 with (first | refine wpList_load_run rfl 37 _ rfl S 0 rfl _ L9.out ?_ | refine wpList_store_mid rfl 37 _ _ rfl (S + 1) 43 _ rfl rfl T9.out HN37.out HO37.out ?_)
  first | rw [← HW10.out] | (simp only [List.toList_toArray]; rw [← HW10.out])
  clear T9 L9 HO37 HN37 HW9 HW10 HV
  have hu37 := Yba.underlying37
  have hil : (Yba.prog.info? 37).map (·.size) = some (idV self).length := by rw [length_idV, hs]; kernel_rfl
  have S9 : Hid (w10.drew.cell? ⟨S + 1, 27, none⟩ = some (.map (some st)) ∧ w10.drew.rangeAt S 0 (idV self)) := by
    refine ⟨?_, HN10.out.i.all⟩
    obtain ⟨T, a⟩ := HN10.out.m
    have e := a.cell 27
    rw [List.getElem?_toArray, show 27 = 21 + 6 from rfl, mem_get net self hs _ K T 6, List.getElem?_append_right (by simp)] at e
    rw [List.getElem?_append_left (by have := (List.getElem?_eq_some_iff.1 HK.out.2.1).1; simp; exact this)] at e
    exact e.trans HK.out.2.1
  refine wp_region_held_drew (S := fun W => W.cell? ⟨S + 1, 27, none⟩ = some (.map (some st)) ∧ W.rangeAt S 0 (idV self)) (by kernel_rfl) S9.out (fun hHeld => ?_)
  refine wpAnyH_take (i := 0) (v := ?_) rfl (by kernel_rfl) (by kernel_rfl) (by kernel_rfl) (fun _ _ _ h => h) (Or.inl ⟨by rfl, ?_⟩) (by assumption) ?_
  rotate_left
  · intro w hSw; go_simp; try with_reducible rfl
  refine wpAnyH_take (i := 1) (v := ?_) rfl (by kernel_rfl) (by kernel_rfl) (by kernel_rfl) (fun _ _ _ h => h) (Or.inl ⟨by rfl, ?_⟩) (by assumption) ?_
  rotate_left
  · intro w hSw; go_simp; try with_reducible rfl
  simp only [Act.put, List.getElem_toArray, List.getElem_cons_succ, List.getElem_cons_zero, List.setIfInBounds_toArray, List.set_cons_zero, List.set_cons_succ]
  refine wpAnyH_take (i := 5) (v := _) rfl (by kernel_rfl) (by kernel_rfl) (by kernel_rfl) (fun _ _ _ h => h) (yieldsIf_load_mid (by rfl) 37 _ rfl S 0 rfl (idV self) _ (fun W h => h.2) hu37 rfl hil) (by assumption) ?_
  refine wpAnyH_take (i := 2) (v := ?_) rfl (by kernel_rfl) (by kernel_rfl) (by kernel_rfl) (fun _ _ _ h => h) (Or.inl ⟨by rfl, ?_⟩) (by assumption) ?_
  rotate_left
  · intro w hSw; go_simp; try with_reducible rfl
  refine wpAnyH_take (i := 3) (v := ?_) rfl (by kernel_rfl) (by kernel_rfl) (by kernel_rfl) (fun _ _ _ h => h) (Or.inl ⟨by rfl, ?_⟩) (by assumption) ?_
  rotate_left
  · intro w hSw; go_simp; try with_reducible rfl
  refine wpAnyH_take (i := 4) (v := ?_) rfl (by kernel_rfl) (by kernel_rfl) (by kernel_rfl) (fun _ _ _ h => h) (Or.inl ⟨by rfl, ?_⟩) (by assumption) ?_
  rotate_left
  · intro w hSw; have q4 := hSw.1; go_simp; try with_reducible rfl
  refine wpAnyH_take (i := 6) (v := ?_) rfl (by kernel_rfl) (by kernel_rfl) (by kernel_rfl) (fun _ _ _ h => h) (Or.inl ⟨by rfl, ?_⟩) (by assumption) ?_
  rotate_left
  · intro w hSw; go_simp; try with_reducible rfl
  simp only [Act.put, List.getElem_toArray, List.getElem_cons_succ, List.getElem_cons_zero, List.setIfInBounds_toArray, List.set_cons_zero, List.set_cons_succ]
  obtain ⟨o, hrun, hmap⟩ := run_update (w := w10.drew) HSt.out.1 65 48 Yba.underlying65 self hs (.int .u64 1)
  obtain ⟨w11, hw11⟩ : ∃ w11, w11 = w10.drew.putObj st o := ⟨_, rfl⟩
  have N11 : NRb w S self net (layV x f t) K RB nr f de su wa 0 w11 := by
    have hmo : ∀ {r : Nat}, st ≠ r → MapAt w10 r [] → MapAt w11 r [] := fun {r} hne h => by rw [hw11]; exact h.of_heap (World.putObj_heap_other (Ne.symm hne))
    have hao : ∀ {b : Nat} {C : Array Value} {t : TypeId}, At w10 b C t → At w11 b C t := fun {b C t} a => by
      rw [hw11]; exact At.putObj (w := w10.drew) a _ _ (a.not_map HSt.out.1)
    obtain ⟨T, a⟩ := HN10.out.m
    refine ⟨⟨?_, hao HN10.out.i, ⟨T, hao a⟩, hao HN10.out.l⟩, ⟨C.toList, by simp [hCs], hao HR10.out⟩, hmo HSt.out.2.2.1 HMs.out.1, hmo HSt.out.2.2.2.1 HMs.out.2.1, hmo HSt.out.2.2.2.2 HMs.out.2.2⟩
    rw [hw11]; exact HN10.out.gr.drew.putObj st o HSt.out.2.1
  refine wpAnyH_ready (rs := [7]) (by kernel_rfl) (by simp) ?_
  refine AllReadyH.cons rfl (fun K1 hK1 => ?_) AllReadyH.nil
  rw [if_pos (by rfl)]
  refine wp_mapUpdate_run 65 _ _ _ rfl _ _ _ rfl rfl rfl _ hrun ?_
  have hS11 : w11.cell? ⟨S + 1, 27, none⟩ = some (.map (some st)) ∧ w11.rangeAt S 0 (idV self) := by
    refine ⟨?_, N11.nm.i.all⟩
    obtain ⟨T, a⟩ := HN10.out.m
    rw [hw11]
    exact cell_of_heap (w := w10.drew) (World.putObj_heap_other (a.not_map HSt.out.1)) S9.out.1
  rw [← hw11]
  refine hK1.out _ _ hS11 (fun _ => ?_)
  have HN11 := hide N11
  clear hS11 hK1 K1 N11 hw11 hrun hmap hHeld S9 HN10 HR10 HSt HMs
  refine wpAnyH_done (by kernel_rfl) ?_ _
  have q21 := HN11.out.nm.c21 hs
  go_upto_region 11 with fail
  clear q21
  have J0 : Aside (NRb w S self net (layV x f t) K RB nr f de su wa 0 w11) := HN11.out
  clear HN11
  go_loopg [64] nr (fun gg s64 wr => ∃ r : Nat, s64 = .int .i64 r ∧ r ≤ nr ∧ nr - r ≤ gg ∧ Aside (NRb w S self net (layV x f t) K RB nr f de su wa r wr))
  case atStart => exact ⟨0, rfl, Nat.zero_le _, by omega, J0⟩
  case round =>
    clear J0
    obtain ⟨r, rfl, hrle, hg0, J⟩ := hrel
    by_cases hrn : r < nr
    · have hrz : (r : Int) < (nr : Int) := by omega
      have hrz0 : (0 : Int) ≤ (r : Int) := by omega
      have hvl := length_viewL f r self hs
      have J1 := J.out.step ((Gr.refl wr).drew)
      have S13 : Hid (wr.drew.cell? ⟨S + 1, 21, none⟩ = some (.slice (some ⟨RB, 0, none⟩) nr nr) ∧ wr.drew.rangeAt (S + 1 + 1) 0 [.int .i64 (x : Int), .int .i64 (f : Int), .int .i64 (t : Int)] ∧ wr.drew.rangeAt S 0 (idV self)) := ⟨J1.nm.c21 hs, At.lall (l := [.int .i64 (x : Int), .int .i64 (f : Int), .int .i64 (t : Int)]) J1.nm.l, J1.nm.i.all⟩
      have HJ1 := hide J1
      have H22 := hide (fun W => view_calls W (x : Int) (t : Int) f hf self hs r)
      have H37 := hide (fun W => newRoutingState_calls W (viewL f r self) hvl)
      have hu51 := Yba.underlying51
      have hi51 : (Yba.prog.info? 51).map (·.size) = some [Value.int .i64 (x : Int), .int .i64 (f : Int), .int .i64 (t : Int)].length := by kernel_rfl
      have HO := hide (all_oneCell_toArray (rsV_one (viewL f r self)))
      have HN : Hid ((Yba.prog.info? 107).map (·.size) = some (rsV (viewL f r self)).toArray.size) := by
        show (Yba.prog.info? 107).map (·.size) = _
        rw [show (rsV (viewL f r self)).toArray.size = 47 by simp [length_rsV _ hvl]]; kernel_rfl
      clear J1
      go_upto_region 13 with fail
      refine wp_region_held_drew (S := fun W => W.cell? ⟨S + 1, 21, none⟩ = some (.slice (some ⟨RB, 0, none⟩) nr nr) ∧ W.rangeAt (S + 1 + 1) 0 [.int .i64 (x : Int), .int .i64 (f : Int), .int .i64 (t : Int)] ∧ W.rangeAt S 0 (idV self)) (by kernel_rfl) S13.out (fun hHeld => ?_)
      refine wpAnyH_take (i := 0) (v := ?_) rfl (by kernel_rfl) (by kernel_rfl) (by kernel_rfl) (fun _ _ _ h => h) (Or.inl ⟨by rfl, ?_⟩) (by assumption) ?_
      rotate_left
      · intro w hSw; go_simp; try with_reducible rfl
      refine wpAnyH_take (i := 1) (v := ?_) rfl (by kernel_rfl) (by kernel_rfl) (by kernel_rfl) (fun _ _ _ h => h) (Or.inl ⟨by rfl, ?_⟩) (by assumption) ?_
      rotate_left
      · intro w hSw; go_simp; try with_reducible rfl
      simp only [Act.put, List.getElem_toArray, List.getElem_cons_succ, List.getElem_cons_zero, List.setIfInBounds_toArray, List.set_cons_zero, List.set_cons_succ]
      refine wpAnyH_take (i := 5) (v := _) rfl (by kernel_rfl) (by kernel_rfl) (by kernel_rfl) (fun _ _ _ h => h) (yieldsIf_load_mid (by rfl) 51 _ rfl (S + 1 + 1) 0 rfl [Value.int .i64 (x : Int), .int .i64 (f : Int), .int .i64 (t : Int)] _ (fun W h => h.2.1) hu51 rfl hi51) (by assumption) ?_
      refine wpAnyH_take (i := 7) (v := _) rfl (by kernel_rfl) (by kernel_rfl) (by kernel_rfl) (fun _ _ _ h => h) (yieldsIf_load_mid (by rfl) 37 _ rfl S 0 rfl (idV self) _ (fun W h => h.2.2) hu37 rfl hil) (by assumption) ?_
      refine wpAnyH_take (i := 2) (v := ?_) rfl (by kernel_rfl) (by kernel_rfl) (by kernel_rfl) (fun _ _ _ h => h) (Or.inl ⟨by rfl, ?_⟩) (by assumption) ?_
      rotate_left
      · intro w hSw; go_simp; try with_reducible rfl
      refine wpAnyH_take (i := 3) (v := ?_) rfl (by kernel_rfl) (by kernel_rfl) (by kernel_rfl) (fun _ _ _ h => h) (Or.inl ⟨by rfl, ?_⟩) (by assumption) ?_
      rotate_left
      · intro w hSw; have q3 := hSw.1; go_simp; try with_reducible rfl
      refine wpAnyH_take (i := 4) (v := ?_) rfl (by kernel_rfl) (by kernel_rfl) (by kernel_rfl) (fun _ _ _ h => h) (Or.inl ⟨by rfl, ?_⟩) (by assumption) ?_
      rotate_left
      · intro w hSw; go_simp; try with_reducible rfl
      refine wpAnyH_take (i := 6) (v := ?_) rfl (by kernel_rfl) (by kernel_rfl) (by kernel_rfl) (fun _ _ _ h => h) (Or.inl ⟨by rfl, ?_⟩) (by assumption) ?_
      rotate_left
      · intro w hSw; go_simp; try with_reducible rfl
      refine wpAnyH_take (i := 9) (v := ?_) rfl (by kernel_rfl) (by kernel_rfl) (by kernel_rfl) (fun _ _ _ h => h) (Or.inl ⟨by rfl, ?_⟩) (by assumption) ?_
      rotate_left
      · intro w hSw; go_simp; try with_reducible rfl
      simp only [Act.put, List.getElem_toArray, List.getElem_cons_succ, List.getElem_cons_zero, List.setIfInBounds_toArray, List.set_cons_zero, List.set_cons_succ]
      have J1 := HJ1.out
      clear HJ1 S13 J
      generalize wr.drew = V0 at *
      refine wpAnyH_ready (rs := [8]) (by kernel_rfl) (by simp) ?_
      refine AllReadyH.cons rfl (fun K1 hK1 => ?_) AllReadyH.nil
      go_simp
      go_at_call 22
      refine (H22.out _).mono ?_
      rintro e V1 ⟨rfl, hg⟩
      replace J1 := J1.step hg
      refine hK1.out _ _ ⟨cell_gr hg hHeld.1, rangeAt_gr hg hHeld.2.1, rangeAt_gr hg hHeld.2.2⟩ (fun hHeld2 => ?_)
      clear hHeld hK1 K1 hg
      refine wpAnyH_ready (rs := [10]) (by kernel_rfl) (by simp) ?_
      refine AllReadyH.cons rfl (fun K1 hK1 => ?_) AllReadyH.nil
      go_simp
      go_at_call 37
      refine (H37.out _).mono ?_
      rintro e V2 ⟨rfl, hg⟩
      replace J1 := J1.step hg
      refine hK1.out _ _ ⟨cell_gr hg hHeld2.1, rangeAt_gr hg hHeld2.2.1, rangeAt_gr hg hHeld2.2.2⟩ (fun hHeld3 => ?_)
      clear hHeld2 hK1 K1 hg
      refine wpAnyH_ready (rs := [11]) (by kernel_rfl) (by simp) ?_
      refine AllReadyH.cons rfl (fun K1 hK1 => ?_) AllReadyH.nil
      go_simp
      refine hK1.out _ _ hHeld3 (fun _ => ?_)
      clear hK1 K1
      refine wpAnyH_ready (rs := [12]) (by kernel_rfl) (by simp) ?_
      refine AllReadyH.cons rfl (fun K1 hK1 => ?_) AllReadyH.nil
      rw [if_pos (by rfl)]
      have hput := J1.put HS.out hRBl hs hrn
      refine wp_store_mid 107 _ _ rfl RB (r * 47) _ rfl rfl hput.1 HN.out HO.out ?_
      have hS14 : ((V2.setCells RB (r * 47) (rsV (viewL f r self)).toArray.toList).cell? ⟨S + 1, 21, none⟩ = some (.slice (some ⟨RB, 0, none⟩) nr nr) ∧ (V2.setCells RB (r * 47) (rsV (viewL f r self)).toArray.toList).rangeAt (S + 1 + 1) 0 [.int .i64 (x : Int), .int .i64 (f : Int), .int .i64 (t : Int)] ∧ (V2.setCells RB (r * 47) (rsV (viewL f r self)).toArray.toList).rangeAt S 0 (idV self)) :=
        ⟨hput.2.nm.c21 hs, At.lall (l := [.int .i64 (x : Int), .int .i64 (f : Int), .int .i64 (t : Int)]) hput.2.nm.l, hput.2.nm.i.all⟩
      refine hK1.out _ _ hS14 (fun _ => ?_)
      have JN : Aside (NRb w S self net (layV x f t) K RB nr f de su wa (r + 1) (V2.setCells RB (r * 47) (rsV (viewL f r self)).toArray.toList)) := hput.2
      generalize V2.setCells RB (r * 47) (rsV (viewL f r self)).toArray.toList = V3 at *
      clear hK1 K1 hS14 hput J1 hHeld3 H22 H37 HO HN
      refine wpAnyH_done (by kernel_rfl) ?_ _
      go_wp2
      go_roundg (nr - (r + 1))
      case measure => omega
      case rel => exact ⟨r + 1, by go_num, by omega, Nat.le_refl _, JN⟩
    · obtain rfl : r = nr := by omega
      have hrz : ¬ ((r : Int) < (r : Int)) := by omega
      have hr0 : (0 : Int) < (r : Int) := by omega
      have E0 : NEb w S self net (layV x f t) K RB r de su wa (ringsV f self r).toArray wr := by
        obtain ⟨zs, h1, h2⟩ := J.out.rb
        have : zs = [] := List.eq_nil_of_length_eq_zero (by rw [h1, Nat.sub_self, Nat.zero_mul])
        subst this
        rw [List.append_nil] at h2
        exact ⟨J.out.nm, h2, J.out.md, J.out.ms, J.out.mw⟩
      have q21 := E0.nm.c21 hs
      have HE0 := hide E0
      clear J E0
      go_upto_region 17 with fail
      clear q21
      obtain ⟨i0, hi0, hz0, hz1, hz2⟩ := info_parts info110
      have HFl := hide (fill_peer i0 hz1 self hs)
      have HBu := hide (built110 self hs)
      have HZ0 := hide hz0
      have h44 : ∀ j u, (rsV (viewL f 0 self))[j]? = some u → j < 47 → (ringsV f self r)[j]? = some u := fun j u h hj => by
        have := ringsV_get f self hs r 0 (by omega) j hj
        rw [show 0 * 47 + j = j by omega] at this
        rw [this]; exact h
      have HC44 : Hid ((ringsV f self r)[44]? = some (.pointer none)) := h44 44 _ (rsV_grp _ (length_viewL f 0 self hs) 0) (by omega)
      have HC45 : Hid ((ringsV f self r)[45]? = some (.slice none 0 0)) := h44 45 _ (rsV_grp _ (length_viewL f 0 self hs) 1) (by omega)
      have HC46 : Hid ((ringsV f self r)[46]? = some (.slice none 0 0)) := h44 46 _ (rsV_grp _ (length_viewL f 0 self hs) 2) (by omega)
      clear h44
      obtain ⟨CR, hCR⟩ : ∃ CR, CR = (ringsV f self r).toArray := ⟨_, rfl⟩
      have H44 : Hid (CR[44]? = some (.pointer none) ∧ CR[45]? = some (.slice none 0 0) ∧ CR[46]? = some (.slice none 0 0)) := by
        rw [hCR]; exact ⟨by rw [List.getElem?_toArray]; exact HC44.out, by rw [List.getElem?_toArray]; exact HC45.out, by rw [List.getElem?_toArray]; exact HC46.out⟩
      have E0 : NEb w S self net (layV x f t) K RB r de su wa CR wr.drew := by rw [hCR]; exact HE0.out.step (Gr.refl wr).drew
      have HCR := hide hCR
      clear HE0 HC44 HC45 HC46 hCR
      go_cut [16] from 88 to 97 (fun s16 wx => s16 = .pointer (some ⟨RB, 44, none⟩) ∧ ∃ X : Nat, Hid (NEb w S self net (layV x f t) K RB r de su wa ((CR.setIfInBounds 44 (.pointer (some ⟨LB, 0, none⟩))).setIfInBounds 45 (.slice (some ⟨X, 0, none⟩) 1 1)) wx ∧ Rw wx base (.slice (some ⟨X, 0, none⟩) 1 1) [self]))
      case first =>
        refine wp_region_held_drew (S := fun W => W.rangeAt S 0 (idV self)) (by kernel_rfl) E0.nm.i.all (fun hHeld => ?_)
        refine wpAnyH_take (i := 0) (v := ?_) rfl (by kernel_rfl) (by kernel_rfl) (by kernel_rfl) (fun _ _ _ h => h) (Or.inl ⟨by rfl, ?_⟩) (by assumption) ?_
        rotate_left
        · intro w hSw; go_simp; try with_reducible rfl
        refine wpAnyH_take (i := 1) (v := ?_) rfl (by kernel_rfl) (by kernel_rfl) (by kernel_rfl) (fun _ _ _ h => h) (Or.inl ⟨by rfl, ?_⟩) (by assumption) ?_
        rotate_left
        · intro w hSw; go_simp; try with_reducible rfl
        refine wpAnyH_take (i := 2) (v := ?_) rfl (by kernel_rfl) (by kernel_rfl) (by kernel_rfl) (fun _ _ _ h => h) (Or.inl ⟨by rfl, ?_⟩) (by assumption) ?_
        rotate_left
        · intro w hSw; go_simp; try with_reducible rfl
        simp only [Act.put, List.getElem_toArray, List.getElem_cons_succ, List.getElem_cons_zero, List.setIfInBounds_toArray, List.set_cons_zero, List.set_cons_succ]
        refine wpAnyH_take (i := 3) (v := _) rfl (by kernel_rfl) (by kernel_rfl) (by kernel_rfl) (fun _ _ _ h => h) (yieldsIf_load_mid (by rfl) 37 _ rfl S 0 rfl (idV self) _ (fun W h => h) hu37 rfl hil) (by assumption) ?_
        refine wpAnyH_take (i := 6) (v := ?_) rfl (by kernel_rfl) (by kernel_rfl) (by kernel_rfl) (fun _ _ _ h => h) (Or.inl ⟨by rfl, ?_⟩) (by assumption) ?_
        rotate_left
        · intro w hSw; go_simp; try with_reducible rfl
        refine wpAnyH_take (i := 7) (v := ?_) rfl (by kernel_rfl) (by kernel_rfl) (by kernel_rfl) (fun _ _ _ h => h) (Or.inl ⟨by rfl, ?_⟩) (by assumption) ?_
        rotate_left
        · intro w hSw; go_simp; try with_reducible rfl
        simp only [Act.put, List.getElem_toArray, List.getElem_cons_succ, List.getElem_cons_zero, List.setIfInBounds_toArray, List.set_cons_zero, List.set_cons_succ]
        clear hHeld
        generalize wr.drew = V0 at *
        refine wpAnyH_ready (rs := [4, 8]) (by kernel_rfl) (by simp) ?_
        refine (AllReadyH.cons rfl (fun K1 hK1 => ?_) (AllReadyH.cons rfl (fun K1 hK1 => ?_) AllReadyH.nil))
        · rw [if_pos (by rfl)]
          refine wp_build_run 110 _ rfl [(0, .agg (idV self).toArray)] (by first | (simp [Act.eval]; done) | simp [Act.eval, Act.put]) _ HBu.out ?_
          refine hK1.out _ _ E0.nm.i.all (fun _ => ?_)
          clear hK1 K1
          refine wpAnyH_ready (rs := [5, 8]) (by kernel_rfl) (by simp) ?_
          refine (AllReadyH.cons rfl (fun K1 hK1 => ?_) (AllReadyH.cons rfl (fun K1 hK1 => ?_) AllReadyH.nil))
          · rw [if_pos (by rfl)]
            refine wp_buildSlice 70 110 1 _ rfl (peerV self).toArray i0 (.agg zeroP) Yba.underlying70 hi0 HZ0.out (by rw [hz1]; decide) (by rw [hz1]; decide) (Eq.trans (congrArg _ (by first | (simp [Act.eval]; done) | simp [Act.eval, Act.put])) HFl.out) ?_
            obtain ⟨X, hX⟩ : ∃ q, q = V0.heap.size := ⟨_, rfl⟩
            have RX := rw_lit V0 self hs base (Nat.le_trans HNr.out.2.2 E0.nm.gr.size)
            replace E0 := E0.step ((Gr.refl V0).alloc (.cells (peerV self).toArray 110))
            rw [← hX] at RX ⊢
            refine hK1.out _ _ E0.nm.i.all (fun _ => ?_)
            generalize V0.alloc (.cells (peerV self).toArray 110) = V2 at *
            clear hX hK1 K1
            refine wpAnyH_ready (rs := [8]) (by kernel_rfl) (by simp) ?_
            refine (AllReadyH.cons rfl (fun K1 hK1 => ?_) AllReadyH.nil)
            have q44 : V2.cell? ⟨RB, 44, none⟩ = some (.pointer none) := by rw [E0.rb.cell]; exact H44.out.1
            have f44 := E0.rb.frozen 44
            replace RX := RX.kept (W' := _) (fun q hq => Below.heap_setCell V2 ⟨RB, 44, none⟩ (.pointer (some ⟨LB, 0, none⟩)) q (by obtain ⟨C', a'⟩ := RX.at hq; exact a'.ne E0.rb (by decide)))
            replace E0 := E0.set HS.out hRBl 44 (.pointer (some ⟨LB, 0, none⟩))
            go_simp
            refine hK1.out _ _ E0.nm.i.all (fun _ => ?_)
            clear hK1 K1 q44 f44
            generalize V2.setCell ⟨RB, 44, none⟩ (.pointer (some ⟨LB, 0, none⟩)) = V3 at *
            refine wpAnyH_ready (rs := [9]) (by kernel_rfl) (by simp) ?_
            refine AllReadyH.cons rfl (fun K1 hK1 => ?_) AllReadyH.nil
            go_simp
            refine hK1.out _ _ E0.nm.i.all (fun _ => ?_)
            clear hK1 K1
            refine wpAnyH_ready (rs := [10]) (by kernel_rfl) (by simp) ?_
            refine AllReadyH.cons rfl (fun K1 hK1 => ?_) AllReadyH.nil
            go_simp
            refine hK1.out _ _ E0.nm.i.all (fun _ => ?_)
            clear hK1 K1
            refine wpAnyH_ready (rs := [11]) (by kernel_rfl) (by simp) ?_
            refine AllReadyH.cons rfl (fun K1 hK1 => ?_) AllReadyH.nil
            have q45 : V3.cell? ⟨RB, 45, none⟩ = some (.slice none 0 0) := by rw [E0.rb.cell, Array.getElem?_setIfInBounds_ne (by omega)]; exact H44.out.2.1
            have f45 := E0.rb.frozen 45
            have E1 := E0.set HS.out hRBl 45 (.slice (some ⟨X, 0, none⟩) 1 1)
            have R1 := RX.kept (W' := _) (fun q hq => Below.heap_setCell V3 ⟨RB, 45, none⟩ (.slice (some ⟨X, 0, none⟩) 1 1) q (by obtain ⟨C', a'⟩ := RX.at hq; exact a'.ne E0.rb (by decide)))
            have HE1 := hide (And.intro E1 R1)
            clear E1 R1
            go_simp
            refine hK1.out _ _ HE1.out.1.nm.i.all (fun _ => ?_)
            clear hK1 K1 q45 f45
            refine wpAnyH_done (by kernel_rfl) ?_ _
            clear E0 RX
            go_wp2
            go_meet
            exact ⟨rfl, X, HE1⟩
          · have q44 : V0.cell? ⟨RB, 44, none⟩ = some (.pointer none) := by rw [E0.rb.cell]; exact H44.out.1
            have f44 := E0.rb.frozen 44
            replace E0 := E0.set HS.out hRBl 44 (.pointer (some ⟨LB, 0, none⟩))
            go_simp
            refine hK1.out _ _ E0.nm.i.all (fun _ => ?_)
            clear hK1 K1 q44 f44
            generalize V0.setCell ⟨RB, 44, none⟩ (.pointer (some ⟨LB, 0, none⟩)) = V4 at *
            refine wpAnyH_ready (rs := [5]) (by kernel_rfl) (by simp) ?_
            refine (AllReadyH.cons rfl (fun K1 hK1 => ?_) AllReadyH.nil)
            rw [if_pos (by rfl)]
            refine wp_buildSlice 70 110 1 _ rfl (peerV self).toArray i0 (.agg zeroP) Yba.underlying70 hi0 HZ0.out (by rw [hz1]; decide) (by rw [hz1]; decide) (Eq.trans (congrArg _ (by first | (simp [Act.eval]; done) | simp [Act.eval, Act.put])) HFl.out) ?_
            obtain ⟨X, hX⟩ : ∃ q, q = V4.heap.size := ⟨_, rfl⟩
            have RX := rw_lit V4 self hs base (Nat.le_trans HNr.out.2.2 E0.nm.gr.size)
            replace E0 := E0.step ((Gr.refl V4).alloc (.cells (peerV self).toArray 110))
            rw [← hX] at RX ⊢
            refine hK1.out _ _ E0.nm.i.all (fun _ => ?_)
            generalize V4.alloc (.cells (peerV self).toArray 110) = V5 at *
            clear hX hK1 K1
            refine wpAnyH_ready (rs := [9]) (by kernel_rfl) (by simp) ?_
            refine AllReadyH.cons rfl (fun K1 hK1 => ?_) AllReadyH.nil
            go_simp
            refine hK1.out _ _ E0.nm.i.all (fun _ => ?_)
            clear hK1 K1
            refine wpAnyH_ready (rs := [10]) (by kernel_rfl) (by simp) ?_
            refine AllReadyH.cons rfl (fun K1 hK1 => ?_) AllReadyH.nil
            go_simp
            refine hK1.out _ _ E0.nm.i.all (fun _ => ?_)
            clear hK1 K1
            refine wpAnyH_ready (rs := [11]) (by kernel_rfl) (by simp) ?_
            refine AllReadyH.cons rfl (fun K1 hK1 => ?_) AllReadyH.nil
            have q45 : V5.cell? ⟨RB, 45, none⟩ = some (.slice none 0 0) := by rw [E0.rb.cell, Array.getElem?_setIfInBounds_ne (by omega)]; exact H44.out.2.1
            have f45 := E0.rb.frozen 45
            have E1 := E0.set HS.out hRBl 45 (.slice (some ⟨X, 0, none⟩) 1 1)
            have R1 := RX.kept (W' := _) (fun q hq => Below.heap_setCell V5 ⟨RB, 45, none⟩ (.slice (some ⟨X, 0, none⟩) 1 1) q (by obtain ⟨C', a'⟩ := RX.at hq; exact a'.ne E0.rb (by decide)))
            have HE1 := hide (And.intro E1 R1)
            clear E1 R1
            go_simp
            refine hK1.out _ _ HE1.out.1.nm.i.all (fun _ => ?_)
            clear hK1 K1 q45 f45
            refine wpAnyH_done (by kernel_rfl) ?_ _
            clear E0 RX
            go_wp2
            go_meet
            exact ⟨rfl, X, HE1⟩
        · have q44 : V0.cell? ⟨RB, 44, none⟩ = some (.pointer none) := by rw [E0.rb.cell]; exact H44.out.1
          have f44 := E0.rb.frozen 44
          replace E0 := E0.set HS.out hRBl 44 (.pointer (some ⟨LB, 0, none⟩))
          go_simp
          refine hK1.out _ _ E0.nm.i.all (fun _ => ?_)
          clear hK1 K1 q44 f44
          generalize V0.setCell ⟨RB, 44, none⟩ (.pointer (some ⟨LB, 0, none⟩)) = V6 at *
          refine wpAnyH_ready (rs := [4]) (by kernel_rfl) (by simp) ?_
          refine (AllReadyH.cons rfl (fun K1 hK1 => ?_) AllReadyH.nil)
          rw [if_pos (by rfl)]
          refine wp_build_run 110 _ rfl [(0, .agg (idV self).toArray)] (by first | (simp [Act.eval]; done) | simp [Act.eval, Act.put]) _ HBu.out ?_
          refine hK1.out _ _ E0.nm.i.all (fun _ => ?_)
          clear hK1 K1
          refine wpAnyH_ready (rs := [5]) (by kernel_rfl) (by simp) ?_
          refine (AllReadyH.cons rfl (fun K1 hK1 => ?_) AllReadyH.nil)
          rw [if_pos (by rfl)]
          refine wp_buildSlice 70 110 1 _ rfl (peerV self).toArray i0 (.agg zeroP) Yba.underlying70 hi0 HZ0.out (by rw [hz1]; decide) (by rw [hz1]; decide) (Eq.trans (congrArg _ (by first | (simp [Act.eval]; done) | simp [Act.eval, Act.put])) HFl.out) ?_
          obtain ⟨X, hX⟩ : ∃ q, q = V6.heap.size := ⟨_, rfl⟩
          have RX := rw_lit V6 self hs base (Nat.le_trans HNr.out.2.2 E0.nm.gr.size)
          replace E0 := E0.step ((Gr.refl V6).alloc (.cells (peerV self).toArray 110))
          rw [← hX] at RX ⊢
          refine hK1.out _ _ E0.nm.i.all (fun _ => ?_)
          generalize V6.alloc (.cells (peerV self).toArray 110) = V8 at *
          clear hX hK1 K1
          refine wpAnyH_ready (rs := [9]) (by kernel_rfl) (by simp) ?_
          refine AllReadyH.cons rfl (fun K1 hK1 => ?_) AllReadyH.nil
          go_simp
          refine hK1.out _ _ E0.nm.i.all (fun _ => ?_)
          clear hK1 K1
          refine wpAnyH_ready (rs := [10]) (by kernel_rfl) (by simp) ?_
          refine AllReadyH.cons rfl (fun K1 hK1 => ?_) AllReadyH.nil
          go_simp
          refine hK1.out _ _ E0.nm.i.all (fun _ => ?_)
          clear hK1 K1
          refine wpAnyH_ready (rs := [11]) (by kernel_rfl) (by simp) ?_
          refine AllReadyH.cons rfl (fun K1 hK1 => ?_) AllReadyH.nil
          have q45 : V8.cell? ⟨RB, 45, none⟩ = some (.slice none 0 0) := by rw [E0.rb.cell, Array.getElem?_setIfInBounds_ne (by omega)]; exact H44.out.2.1
          have f45 := E0.rb.frozen 45
          have E1 := E0.set HS.out hRBl 45 (.slice (some ⟨X, 0, none⟩) 1 1)
          have R1 := RX.kept (W' := _) (fun q hq => Below.heap_setCell V8 ⟨RB, 45, none⟩ (.slice (some ⟨X, 0, none⟩) 1 1) q (by obtain ⟨C', a'⟩ := RX.at hq; exact a'.ne E0.rb (by decide)))
          have HE1 := hide (And.intro E1 R1)
          clear E1 R1
          go_simp
          refine hK1.out _ _ HE1.out.1.nm.i.all (fun _ => ?_)
          clear hK1 K1 q45 f45
          refine wpAnyH_done (by kernel_rfl) ?_ _
          clear E0 RX
          go_wp2
          go_meet
          exact ⟨rfl, X, HE1⟩
      case rest =>
        obtain ⟨rfl, X, HE⟩ := hcut
        clear E0
        have q21 := HE.out.1.nm.c21 hs
        by_cases hr1 : 1 < r
        · have hr1z : (1 : Int) < (r : Int) := by omega
          have hr1d : decide ((r : Int) > 1) = true := decide_eq_true hr1z
          go_upto_region 19 with fail
          have L19 := hide (idload HE.out.1.nm.i.all hs)
          obtain ⟨Y, hY⟩ : ∃ q, q = wc.heap.size := ⟨_, rfl⟩
          have RY := rw_lit wc self hs base (Nat.le_trans HNr.out.2.2 HE.out.1.nm.gr.size)
          have gA := (Gr.refl wc).alloc (.cells (peerV self).toArray 110)
          have E1 := HE.out.1.step gA
          have RX1 := HE.out.2.kept (W' := wc.alloc (.cells (peerV self).toArray 110)) (fun q hq => gA.heap (by obtain ⟨C', a'⟩ := HE.out.2.at hq; exact a'.lt))
          rw [← hY] at RY
          have hXY : X ≠ Y := by
            obtain ⟨C', a'⟩ := HE.out.2.at (k := X) rfl
            have := a'.lt
            omega
          have q46 : (wc.alloc (.cells (peerV self).toArray 110)).cell? ⟨RB, 46, none⟩ = some (.slice none 0 0) := by rw [E1.rb.cell, Array.getElem?_setIfInBounds_ne (by omega), Array.getElem?_setIfInBounds_ne (by omega)]; exact H44.out.2.2
          have f46 := E1.rb.frozen 46
          have E2 := E1.set HS.out hRBl 46 (.slice (some ⟨Y, 0, none⟩) 1 1)
          have RX2 := RX1.kept (W' := _) (fun q hq => Below.heap_setCell (wc.alloc (.cells (peerV self).toArray 110)) ⟨RB, 46, none⟩ (.slice (some ⟨Y, 0, none⟩) 1 1) q (by obtain ⟨C', a'⟩ := RX1.at hq; exact a'.ne E1.rb (by decide)))
          have RY2 := RY.kept (W' := _) (fun q hq => Below.heap_setCell (wc.alloc (.cells (peerV self).toArray 110)) ⟨RB, 46, none⟩ (.slice (some ⟨Y, 0, none⟩) 1 1) q (by obtain ⟨C', a'⟩ := RY.at hq; exact a'.ne E1.rb (by decide)))
          have HYe := hide hY
          have HF := hide (And.intro E2 (And.intro RX2 (And.intro RY2 hXY)))
          clear E1 E2 RX1 RX2 RY RY2 gA hY HE hXY
          go_wp2_with (first | refine wpList_load_run rfl 37 _ rfl S 0 rfl _ L19.out ?_ | refine wpList_build_run rfl 110 _ rfl [(0, .agg (idV self).toArray)] (by first | (simp [Act.eval]; done) | (simp [Act.eval, Act.put]; done)) _ HBu.out ?_ | refine wpList_buildSlice_run rfl 70 110 1 _ rfl (peerV self).toArray i0 (.agg zeroP) Yba.underlying70 hi0 HZ0.out (by rw [hz1]; decide) (by rw [hz1]; decide) (Eq.trans (congrArg _ (by first | (simp [Act.eval]; done) | simp [Act.eval, Act.put])) HFl.out) ?_)
          go_ret
          rw [← HYe.out]
          have EF := HF.out.1
          rw [HCR.out, HNet.out] at EF
          refine ⟨S + 1, rfl, EF.nm.gr, RB, su, wa, de, vXY (.slice (some ⟨X, 0, none⟩) 1 1) (.slice (some ⟨Y, 0, none⟩) 1 1), EF.mb hs hnr1 hnr2 HL.out HK.out.1 HK.out.2.2.1 HK.out.2.2.2.1 HK.out.2.2.2.2 HNs.out.1 HNs.out.2.1 HNs.out.2.2 _ rfl rfl (fun i hi => ?_), rows2 HF.out.2.1 HF.out.2.2.1 HF.out.2.2.2 hr1, by have := HS.out; omega, HLe.out.1, HLe.out.2⟩
          unfold vXY; rw [if_neg (by omega), if_neg (by omega)]
        · have hr1z : ¬ (r : Int) > 1 := by omega
          have hr1d : decide ((r : Int) > 1) = false := decide_eq_false hr1z
          go_wp2
          go_ret
          have EF := HE.out.1
          have e46 := set_same (C := (CR.setIfInBounds 44 (.pointer (some ⟨LB, 0, none⟩))).setIfInBounds 45 (.slice (some ⟨X, 0, none⟩) 1 1)) (i := 46) (u := .slice none 0 0) (by rw [Array.getElem?_setIfInBounds_ne (by omega), Array.getElem?_setIfInBounds_ne (by omega)]; exact H44.out.2.2)
          rw [← e46, HCR.out, HNet.out] at EF
          refine ⟨S + 1, rfl, EF.nm.gr, RB, su, wa, de, vXY (.slice (some ⟨X, 0, none⟩) 1 1) (.slice none 0 0), EF.mb hs hnr1 hnr2 HL.out HK.out.1 HK.out.2.2.1 HK.out.2.2.2.1 HK.out.2.2.2.2 HNs.out.1 HNs.out.2.1 HNs.out.2.2 _ rfl rfl (fun i hi => ?_), rows1 HE.out.2 hr1, by have := HS.out; omega, HLe.out.1, HLe.out.2⟩
          unfold vXY; rw [if_neg (by omega), if_neg (by omega)]
end Go.Proofs.Ybulkapqu
