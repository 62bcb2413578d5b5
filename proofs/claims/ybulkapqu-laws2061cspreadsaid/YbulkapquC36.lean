import Derived.Test.YbulkapquC37
namespace Go.Proofs.Ybulkapqu
open Go.RowKit Go.Sort

set_option maxHeartbeats 40000000 in
set_option maxRecDepth 1000000 in
theorem spread_main (w : World) (n0 n1 m9 m10 : Nat) (stamp : Int) (dead : Bool) (rel hand wat : Nat → Bool) (ax af : Option Addr) (lx cx lf cf : Nat) (hlx : lx ≤ 1024) (hlf : lf ≤ 1024) (h0 : n0 < 256) (h1 : n1 < 256) (hX : BytesAt w ax lx) (hF : BytesAt w af lf) :
    Calls Yba.prog 7 #[.int .u8 (n0 : Int), .int .u8 (n1 : Int), .slice ax lx cx, .slice af lf cf, .bool dead, .int .u64 stamp, .agg (twoV rel), .agg (twoV hand), .agg (twoV wat), .int .u8 (m9 : Int), .int .u8 (m10 : Int)] w fun e w' => e = .returned (.bool true) ∧ Below w.heap.size w w' := by
  have mixed : Yba.prog.follows .mixedOrders = true := by kernel_rfl
  obtain ⟨S, hS⟩ : ∃ S, S = w.heap.size := ⟨_, rfl⟩
  obtain ⟨w1, hw1⟩ : ∃ w1, w1 = ((w.alloc (.cells (twoV rel) 49)).alloc (.cells (twoV hand) 49)).alloc (.cells (twoV wat) 49) := ⟨_, rfl⟩
  have g1 : Gr w w1 := by rw [hw1]; exact (((Gr.refl w).alloc _).alloc _).alloc _
  have F1 : At w1 S (twoV rel) 49 := by rw [hw1, hS]; exact ((At.new w _ _).alloc _).alloc _
  have F2 : At w1 (S + 1) (twoV hand) 49 := by
    have := At.new (w.alloc (.cells (twoV rel) 49)) (twoV hand) 49
    rw [World.size_alloc, ← hS] at this
    rw [hw1]; exact this.alloc _
  have F3 : At w1 (S + 1 + 1) (twoV wat) 49 := by
    have := At.new ((w.alloc (.cells (twoV rel) 49)).alloc (.cells (twoV hand) 49)) (twoV wat) 49
    rw [World.size_alloc, World.size_alloc, ← hS] at this
    rw [hw1]; exact this
  have hs1 : w1.heap.size = S + 1 + 1 + 1 := by rw [hw1, hS]; simp
  have HW1 := hide hw1
  have HS := hide hS
  have HF1 := hide (And.intro g1 (And.intro F1 (And.intro F2 F3)))
  have HBy := hide (And.intro hX hF)
  clear hw1 hS g1 F1 F2 F3 hX hF
  have e1 : ¬ ((lx : Int) > 1024) := by omega
  have e2 : ¬ ((lf : Int) > 1024) := by omega
  have e1' : decide ((lx : Int) > 1024) = false := decide_eq_false e1
  have e2' : decide ((lf : Int) > 1024) = false := decide_eq_false e2
  go_enter Yba.func7, Yba.ntmps7
  go_upto_region 1 with fail
  rw [← HW1.out, ← HS.out]
  go_upto_region 3 with fail
  clear e1 e2 e1' e2'
  obtain ⟨x, hx⟩ : ∃ x : Nat, (m9 : Int) % 3 = (x : Int) := ⟨m9 % 3, by omega⟩
  obtain ⟨y, hy⟩ : ∃ y : Nat, (m10 : Int) % 3 = (y : Int) := ⟨m10 % 3, by omega⟩
  obtain ⟨t, ht⟩ : ∃ t : Nat, (x : Int) + (y : Int) = (t : Int) := ⟨x + y, by omega⟩
  have hx2 : x ≤ 2 := by omega
  have hy2 : y ≤ 2 := by omega
  have HX := hide hx
  have HY := hide hy
  have HT := hide ht
  clear hx hy ht
  go_upto_region 4 with fail
  rw [HX.out]
  go_upto_region 6 with fail
  rw [HY.out, HT.out]
  go_upto_region 7 with fail
  try rw [hs1]
  obtain ⟨w2, hw2⟩ : ∃ w2, w2 = (w1.alloc (.cells #[.int .i64 x, .int .i64 x, .int .i64 t] 51)).alloc (.cells #[.slice none 0 0] 55) := ⟨_, rfl⟩
  rw [← hw2]
  have g2 : Gr w1 w2 := by rw [hw2]; exact ((Gr.refl w1).alloc _).alloc _
  have aL : At w2 (S + 1 + 1 + 1) (layV x x t) 51 := by rw [hw2, ← hs1]; exact (At.new w1 (layV x x t) 51).alloc _
  have aT : At w2 (S + 1 + 1 + 1 + 1) #[.slice none 0 0] 55 := by
    have := At.new (w1.alloc (.cells #[.int .i64 x, .int .i64 x, .int .i64 t] 51)) #[.slice none 0 0] 55
    rw [World.size_alloc, hs1] at this
    rw [hw2]; exact this
  have HW2 := hide (And.intro g2 (And.intro aL aT))
  clear hw2 g2 aL aT HX HY HW1 hs1
  go_cut [25] from 68 to 69 (fun s25 wx => ∃ P : Nat, s25 = .pointer (some ⟨P, 0, none⟩) ∧ Hid (Gr w2 wx ∧ At wx P (idV (cidL n0)).toArray 37))
  case first =>
    have H20 := hide (cid_calls w2 (n0 : Int) (by omega) (by omega))
    go_wp2_with fail
    refine H20.out.mono ?_
    rintro e w3 ⟨rfl, g3⟩
    have B := box20 w3 (cidL n0) (length_cidL _)
    have HT3 := hide B.1
    have HB := hide B.2
    have HI := hide (info37s _ (length_cidL n0))
    have HO := hide (all_oneCell_toArray (idV_one (cidL n0)))
    have HG := hide g3
    clear B g3
    go_wp2_with (first | refine wpList_store_mid rfl 37 _ _ rfl w3.heap.size 0 _ rfl rfl HT3.out HI.out HO.out ?_)
    go_meet
    exact ⟨_, rfl, HG.out.trans HB.out.1, HB.out.2⟩
  case rest =>
    obtain ⟨P, rfl, HP⟩ := hcut
    go_upto_region 8 with fail
    go_cut [26] from 70 to 71 (fun s26 wx => ∃ Q : Nat, s26 = .pointer (some ⟨Q, 0, none⟩) ∧ Hid (Gr w2 wx ∧ At wx P (idV (cidL n0)).toArray 37 ∧ At wx Q (idV (cidL n1)).toArray 37))
    case first =>
      have H20 := hide (cid_calls wc (n1 : Int) (by omega) (by omega))
      go_wp2_with fail
      refine H20.out.mono ?_
      rintro e w3 ⟨rfl, g3⟩
      have B := box20 w3 (cidL n1) (length_cidL _)
      have HT3 := hide B.1
      have HB := hide B.2
      have HI := hide (info37s _ (length_cidL n1))
      have HO := hide (all_oneCell_toArray (idV_one (cidL n1)))
      have HG := hide g3
      clear B g3
      go_wp2_with (first | refine wpList_store_mid rfl 37 _ _ rfl w3.heap.size 0 _ rfl rfl HT3.out HI.out HO.out ?_)
      go_meet
      exact ⟨_, rfl, HP.out.1.trans (HG.out.trans HB.out.1), HP.out.2.gr (HG.out.trans HB.out.1), HB.out.2⟩
    case rest =>
      obtain ⟨Q, rfl, HQ⟩ := hcut
      clear HP
      obtain ⟨nr, hnr⟩ : ∃ nr, nr = if x < t then 2 else 1 := ⟨_, rfl⟩
      have hnr1 : 0 < nr := by rw [hnr]; split <;> omega
      have hnr2 : nr ≤ 2 := by rw [hnr]; split <;> omega
      have gw : Gr w wc := HF1.out.1.trans (HW2.out.1.trans HQ.out.1)
      have L9 := hide (idload HQ.out.2.1.all (length_cidL n0))
      have H21 := hide (newMembership_calls wc (cidL n0) (length_cidL _) (S + 1 + 1 + 1) (S + 1 + 1 + 1 + 1) x x t S nr hx2 hnr (HW2.out.2.1.gr HQ.out.1) (by rw [HS.out]; exact gw.size))
      have HGw := hide gw
      clear gw hnr
      go_upto_region 9 with fail
      go_wp2_with (first | refine wpList_load_run rfl 37 _ rfl P 0 rfl _ L9.out ?_)
      refine H21.out.mono ?_
      rintro e w4 ⟨MB, RB, SU, WA, D, v0, rfl, g4, hM, hR, b1, b2, b3⟩
      have hz : (0 : Int) < (nr : Int) := by omega
      have q21 : w4.cell? ⟨MB, 21, none⟩ = some (.slice (some ⟨RB, 0, none⟩) nr nr) := by
        obtain ⟨C, a, _, _, m3, _⟩ := hM.mb
        exact (a.cell _).trans m3
      have HM := hide (And.intro g4 (And.intro hM (And.intro hR (And.intro b1 (And.intro b2 b3)))))
      clear g4 hM hR b1 b2 b3 H21 L9
      go_upto_region 13 with fail
      clear q21
      obtain ⟨SB, hSB⟩ : ∃ SB, SB = w4.heap.size := ⟨_, rfl⟩
      have gS : S ≤ wc.heap.size := by rw [HS.out]; exact HGw.out.size
      have OK : Hid (mkK MB RB (S + 1 + 1 + 1) SU WA D (S + 1 + 1 + 1 + 1) S SB Q nr x t (cidL n0) (cidL n1) rel hand wat w).Ok := by
        refine ⟨HS.out, by show S ≤ SB; rw [hSB]; exact Nat.le_trans gS HM.out.1.size, Nat.le_trans gS HM.out.2.2.2.1, Nat.le_trans gS HM.out.2.2.2.2.1, Nat.le_trans gS HM.out.2.2.2.2.2, hnr1, hnr2, length_cidL _, hx2, hx2, length_cidL _⟩
      have J0 : Hid (LW (mkK MB RB (S + 1 + 1 + 1) SU WA D (S + 1 + 1 + 1 + 1) S SB Q nr x t (cidL n0) (cidL n1) rel hand wat w) 1 v0 (ids0 nr (cidL n0)) [] ((w4.alloc (.cells Yba.zeroCells108 108)).setCell ⟨SB, n0, none⟩ (.bool true))) := by
        have g14 : Gr w1 w4 := HW2.out.1.trans (HQ.out.1.trans HM.out.1)
        have := OK.out
        rw [hSB] at this
        have h := lw_start HM.out.2.1 HM.out.2.2.1 (HGw.out.trans HM.out.1) HS.out (HF1.out.2.1.gr g14) (HF1.out.2.2.1.gr g14) (HF1.out.2.2.2.gr g14) (HW2.out.2.2.gr (HQ.out.1.trans HM.out.1)) (HQ.out.2.2.gr HM.out.1) this n0
        rw [hSB]; exact h
      have hcs : (w4.alloc (.cells Yba.zeroCells108 108)).cell? ⟨SB, n0, none⟩ = some (.bool false) := by
        have a := At.new w4 Yba.zeroCells108 108
        rw [hSB]
        have := a.cell n0
        rw [this, z108, List.getElem?_toArray, List.getElem?_replicate, if_pos h0]
      have hfs : (w4.alloc (.cells Yba.zeroCells108 108)).frozen? ⟨SB, n0, none⟩ = false := by
        rw [hSB]; exact (At.new w4 Yba.zeroCells108 108).frozen n0
      rw [← hSB]
      have hn0z : (n0 : Int) < 256 := by omega
      have hn0z0 : (0 : Int) ≤ (n0 : Int) := by omega
      clear HM HF1 HW2 HQ HGw gS hSB
      generalize w4.alloc (.cells Yba.zeroCells108 108) = w5 at *
      go_upto_region 15 with fail
      clear hcs hfs
      generalize w5.setCell ⟨SB, n0, none⟩ (.bool true) = w6 at *
      have J : Aside (LW (mkK MB RB (S + 1 + 1 + 1) SU WA D (S + 1 + 1 + 1 + 1) S SB Q nr x t (cidL n0) (cidL n1) rel hand wat w) 1 v0 (ids0 nr (cidL n0)) [] w6) := J0.out
      clear J0
      go_loopg [91] lx (fun gg s91 wr => ∃ i : Nat, s91 = .int .i64 i ∧ i ≤ lx ∧ lx - i ≤ gg ∧ ∃ v ids sus, Aside (LW (mkK MB RB (S + 1 + 1 + 1) SU WA D (S + 1 + 1 + 1 + 1) S SB Q nr x t (cidL n0) (cidL n1) rel hand wat w) (1 + 4 * i) v ids sus wr))
      case atStart => exact ⟨0, rfl, Nat.zero_le _, by omega, _, _, _, J⟩
      case round =>
        clear J
        obtain ⟨i, rfl, hile, hg0, v, ids, sus, J⟩ := hrel
        by_cases hil : i < lx
        · have hiz : (i : Int) < (lx : Int) := by omega
          have hiz0 : (0 : Int) ≤ (i : Int) := by omega
          obtain ⟨b, o, bv, hax, hbv, hcell⟩ := HBy.out.1 i hil
          subst hax
          have qx := below_cell J.out.fr HS.out hcell
          clear hcell
          obtain ⟨sn, qs⟩ : ∃ sn, wr.cell? ⟨SB, bv, none⟩ = some (.bool sn) := J.out.look bv hbv
          have hbz : (bv : Int) < 256 := by omega
          have hbz0 : (0 : Int) ≤ (bv : Int) := by omega
          cases sn with
          | true =>
            go_wp2
            go_roundg (lx - (i + 1))
            case measure => omega
            case rel => exact ⟨i + 1, by go_num, by omega, Nat.le_refl _, _, _, _, J.out.mono (by omega)⟩
          | false =>
            have fs : wr.frozen? ⟨SB, bv, none⟩ = false := by obtain ⟨A, _, _, a⟩ := J.out.fix.seen; exact a.frozen bv
            have J1 : Hid (LW (mkK MB RB (S + 1 + 1 + 1) SU WA D (S + 1 + 1 + 1 + 1) S SB Q nr x t (cidL n0) (cidL n1) rel hand wat w) (1 + 4 * i) v ids sus (wr.setCell ⟨SB, bv, none⟩ (.bool true))) := J.out.seen OK.out bv
            go_upto_region 19 with fail
            clear qs fs qx J
            generalize wr.setCell ⟨SB, bv, none⟩ (.bool true) = w7 at *
            go_cut [33] from 101 to 102 (fun s33 wx => ∃ PB : Nat, s33 = .pointer (some ⟨PB, 0, none⟩) ∧ Hid (LW (mkK MB RB (S + 1 + 1 + 1) SU WA D (S + 1 + 1 + 1 + 1) S SB Q nr x t (cidL n0) (cidL n1) rel hand wat w) (1 + 4 * i) v ids sus wx ∧ At wx PB (idV (cidL bv)).toArray 37))
            case first =>
              have H20 := hide (cid_calls w7 (bv : Int) (by omega) (by omega))
              go_wp2_with fail
              refine H20.out.mono ?_
              rintro e w3 ⟨rfl, g3⟩
              have B := box20 w3 (cidL bv) (length_cidL _)
              have HT3 := hide B.1
              have HB := hide B.2
              have HI := hide (info37s _ (length_cidL bv))
              have HO := hide (all_oneCell_toArray (idV_one (cidL bv)))
              have HG := hide g3
              clear B g3
              go_wp2_with (first | refine wpList_store_mid rfl 37 _ _ rfl w3.heap.size 0 _ rfl rfl HT3.out HI.out HO.out ?_)
              go_meet
              exact ⟨_, rfl, J1.out.gr OK.out (HG.out.trans HB.out.1), HB.out.2⟩
            case rest =>
              obtain ⟨PB, rfl, HPB⟩ := hcut
              clear J1
              go_upto_if 106 with fail
              go_cut [34] from 103 to 110 (fun s34 wx => ∃ fl : Nat, s34 = .int .u8 (fl : Int) ∧ fl < 256 ∧ wx = wc)
              case first =>
                by_cases hif : i < lf
                · have hifz : (i : Int) < (lf : Int) := by omega
                  have hifd : decide ((i : Int) < (lf : Int)) = true := decide_eq_true hifz
                  obtain ⟨b', o', fv, haf, hfv, hcell⟩ := HBy.out.2 i hif
                  subst haf
                  have qf := below_cell HPB.out.1.fr HS.out hcell
                  clear hcell
                  go_wp2_with fail
                  go_meet
                  exact ⟨fv, rfl, hfv, rfl⟩
                · have hifz : ¬ (i : Int) < (lf : Int) := by omega
                  have hifd : decide ((i : Int) < (lf : Int)) = false := decide_eq_false hifz
                  go_wp2_with fail
                  go_meet
                  exact ⟨0, rfl, by omega, rfl⟩
              case rest =>
                obtain ⟨fl, rfl, hfl, rfl⟩ := hcut
                go_upto_region 23 with fail
                go_cut [33] from 111 to 121 (fun s33 wx => s33 = .pointer (some ⟨PB, 0, none⟩) ∧ ∃ v ids, Hid (LW (mkK MB RB (S + 1 + 1 + 1) SU WA D (S + 1 + 1 + 1 + 1) S SB Q nr x t (cidL n0) (cidL n1) rel hand wat w) (1 + 4 * i + 0 + 1) v ids sus wx ∧ At wx PB (idV (cidL bv)).toArray 37))
                case first =>
                  obtain ⟨i0, hi0, hz0, hz1, hz2⟩ := info_parts info110
                  have HZ0 := hide hz0
                  have HFl := hide (fill_peer i0 hz1 (cidL bv) (length_cidL bv))
                  have HBu := hide (built110 (cidL bv) (length_cidL bv))
                  have hu37 := Yba.underlying37
                  have hil37 : (Yba.prog.info? 37).map (·.size) = some (idV (cidL bv)).length := by rw [length_idV, length_cidL]; kernel_rfl
                  have J1 := HPB.out.1.gr OK.out ((Gr.refl wc).drew)
                  have aP := HPB.out.2.gr ((Gr.refl wc).drew)
                  have hrow : 0 < 2 + nr := by omega
                  have HKeep : Hid (∀ (v : Nat → Value) (V : World), Mb ((mkK MB RB (S + 1 + 1 + 1) SU WA D (S + 1 + 1 + 1 + 1) S SB Q nr x t (cidL n0) (cidL n1) rel hand wat w).cs sus) D (S + 1 + 1 + 1 + 1) [] v V → At V PB (idV (cidL bv)).toArray 37 → V.rangeAt PB 0 (idV (cidL bv))) := fun _ V _ a => a.all
                  clear HPB
                  refine wp_region_held_drew (S := fun W => W.rangeAt PB 0 (idV (cidL bv))) (by kernel_rfl) aP.all (fun hHeld => ?_)
                  refine wpAnyH_take (i := 0) (v := ?_) rfl (by kernel_rfl) (by kernel_rfl) (by kernel_rfl) (fun _ _ _ h => h) (Or.inl ⟨by rfl, ?_⟩) (by assumption) ?_
                  rotate_left
                  · intro w hSw; go_simp; try with_reducible rfl
                  refine wpAnyH_take (i := 1) (v := ?_) rfl (by kernel_rfl) (by kernel_rfl) (by kernel_rfl) (fun _ _ _ h => h) (Or.inl ⟨by rfl, ?_⟩) (by assumption) ?_
                  rotate_left
                  · intro w hSw; go_simp; try with_reducible rfl
                  simp only [Act.put, List.getElem_toArray, List.getElem_cons_succ, List.getElem_cons_zero, List.setIfInBounds_toArray, List.set_cons_zero, List.set_cons_succ]
                  refine wpAnyH_take (i := 5) (v := _) rfl (by kernel_rfl) (by kernel_rfl) (by kernel_rfl) (fun _ _ _ h => h) (yieldsIf_load_mid (by rfl) 37 _ rfl PB 0 rfl (idV (cidL bv)) _ (fun W h => h) hu37 rfl hil37) (by assumption) ?_
                  refine wpAnyH_take (i := 2) (v := ?_) rfl (by kernel_rfl) (by kernel_rfl) (by kernel_rfl) (fun _ _ _ h => h) (Or.inl ⟨by rfl, ?_⟩) (by assumption) ?_
                  rotate_left
                  · intro w hSw; go_simp; try with_reducible rfl
                  refine wpAnyH_take (i := 3) (v := ?_) rfl (by kernel_rfl) (by kernel_rfl) (by kernel_rfl) (fun _ _ _ h => h) (Or.inl ⟨by rfl, ?_⟩) (by assumption) ?_
                  rotate_left
                  · intro w hSw; go_simp; try with_reducible rfl
                  simp only [Act.put, List.getElem_toArray, List.getElem_cons_succ, List.getElem_cons_zero, List.setIfInBounds_toArray, List.set_cons_zero, List.set_cons_succ]
                  generalize wc.drew = V0 at *
                  refine wpAnyH_ready (rs := [4, 6]) (by kernel_rfl) (by simp) ?_
                  refine (AllReadyH.cons rfl (fun K hK => ?_) (AllReadyH.cons rfl (fun K hK => ?_) AllReadyH.nil))
                  · have q4 : V0.cell? ⟨RB, 45, none⟩ = some (v 0) := J1.cell 0 hrow
                    go_simp
                    refine hK.out _ _ hHeld (fun hHeld2 => ?_)
                    clear q4
                    clear hHeld hK K
                    have hHeld := hHeld2
                    clear hHeld2
                    refine wpAnyH_ready (rs := [6]) (by kernel_rfl) (by simp) ?_
                    refine (AllReadyH.cons rfl (fun K hK => ?_) AllReadyH.nil)
                    rw [if_pos (by rfl)]
                    refine wp_build_run 110 _ rfl [(0, .agg (idV (cidL bv)).toArray)] (by first | (simp [Act.eval]; done) | simp [Act.eval, Act.put]) _ HBu.out ?_
                    refine hK.out _ _ hHeld (fun hHeld2 => ?_)
                    clear hHeld hK K
                    have hHeld := hHeld2
                    clear hHeld2
                    refine wpAnyH_ready (rs := [7]) (by kernel_rfl) (by simp) ?_
                    refine (AllReadyH.cons rfl (fun K hK => ?_) AllReadyH.nil)
                    rw [if_pos (by rfl)]
                    refine wp_buildSlice 70 110 1 _ rfl (peerV (cidL bv)).toArray i0 (.agg zeroP) Yba.underlying70 hi0 HZ0.out (by rw [hz1]; decide) (by rw [hz1]; decide) (Eq.trans (congrArg _ (by first | (simp [Act.eval]; done) | simp [Act.eval, Act.put])) HFl.out) ?_
                    obtain ⟨X, hX⟩ : ∃ q, q = V0.heap.size := ⟨_, rfl⟩
                    have N8 : At (V0.alloc (.cells (peerV (cidL bv)).toArray 110)) X (peerV (cidL bv)).toArray 110 := by rw [hX]; exact At.new _ _ _
                    replace J1 := J1.gr OK.out ((Gr.refl V0).alloc (.cells (peerV (cidL bv)).toArray 110))
                    replace aP := aP.gr ((Gr.refl V0).alloc (.cells (peerV (cidL bv)).toArray 110))
                    rw [← hX]
                    refine hK.out _ _ (HKeep.out _ _ J1.mb aP) (fun hHeld2 => ?_)
                    generalize V0.alloc (.cells (peerV (cidL bv)).toArray 110) = V3 at *
                    clear hX
                    clear hHeld hK K
                    have hHeld := hHeld2
                    clear hHeld2
                    refine wpAnyH_ready (rs := [8]) (by kernel_rfl) (by simp) ?_
                    refine AllReadyH.cons rfl (fun K hK => ?_) AllReadyH.nil
                    rw [if_pos (by rfl)]
                    refine wp_append_lies _ _ _ 70 rfl S 110 i0 _ 24 56 Yba.underlying70 hi0 HZ0.out hz1 hz2 size_zeroP (by omega) (v 0) (ids 0).length ((ids 0).flatMap peerV) (by rfl) (J1.rows.row 0).own ⟨X, 0, none⟩ 1 1 (peerV (cidL bv)) (by rfl) (by rw [length_peerV _ (length_cidL bv)]) (fun j u hj => by rw [Addr.add_mid, N8.cell, Nat.zero_add]; simpa using hj) (peerV_one (cidL bv)) (by omega) (by have := J1.len 0; unfold maxLen; omega) (by have := J1.len 0; omega) (J1.size OK.out) _ rfl ?_
                    intro g cap V9 hown hgrow hat hlt
                    have hfin := J1.app OK.out 0 hrow (cidL bv) (length_cidL bv) hown hgrow hat
                    have aP9 : At V9 PB (idV (cidL bv)).toArray 37 := aP.of_heap (hgrow.block PB aP.lt (fun e => J1.own aP (by decide) 0 PB e.symm rfl))
                    have hRP : PB ≠ RB := by obtain ⟨C, a, _⟩ := J1.mb.rb; exact aP.ne a (by decide)
                    have aP10 := aP9.setOther ⟨RB, 45, none⟩ (.slice (some ⟨g, 0, none⟩) ((ids 0).length + 1) cap) hRP
                    have hH9 := HKeep.out _ _ hfin.2.2.1 aP9
                    have hH10 := HKeep.out _ _ hfin.2.2.2.mb aP10
                    refine hK.out _ _ hH9 (fun _ => ?_)
                    clear hK K hown hgrow hat hlt hHeld aP J1 N8
                    refine wpAnyH_ready (rs := [9]) (by kernel_rfl) (by simp) ?_
                    refine AllReadyH.cons rfl (fun K hK => ?_) AllReadyH.nil
                    go_simp
                    refine hK.out _ _ hH9 (fun _ => ?_)
                    clear hK K
                    refine wpAnyH_ready (rs := [10]) (by kernel_rfl) (by simp) ?_
                    refine AllReadyH.cons rfl (fun K hK => ?_) AllReadyH.nil
                    go_simp
                    refine hK.out _ _ hH9 (fun _ => ?_)
                    clear hK K
                    refine wpAnyH_ready (rs := [11]) (by kernel_rfl) (by simp) ?_
                    refine AllReadyH.cons rfl (fun K hK => ?_) AllReadyH.nil
                    have q11 : V9.cell? ⟨RB, 45, none⟩ = some (v 0) := hfin.1
                    have f11 : V9.frozen? ⟨RB, 45, none⟩ = false := hfin.2.1
                    go_simp
                    refine hK.out _ _ hH10 (fun _ => ?_)
                    clear hK K q11 f11 hH9 hH10
                    have JN : Hid (LW (mkK MB RB (S + 1 + 1 + 1) SU WA D (S + 1 + 1 + 1 + 1) S SB Q nr x t (cidL n0) (cidL n1) rel hand wat w) (1 + 4 * i + 0 + 1) (upd v 0 (.slice (some ⟨g, 0, none⟩) ((ids 0).length + 1) cap)) (upd ids 0 (ids 0 ++ [(cidL bv)])) sus (V9.setCell ⟨RB, 45, none⟩ (.slice (some ⟨g, 0, none⟩) ((ids 0).length + 1) cap)) ∧ At (V9.setCell ⟨RB, 45, none⟩ (.slice (some ⟨g, 0, none⟩) ((ids 0).length + 1) cap)) PB (idV (cidL bv)).toArray 37) := ⟨hfin.2.2.2, aP10⟩
                    clear hfin aP9 aP10 hRP
                    refine wpAnyH_done (by kernel_rfl) ?_ _
                    go_wp2
                    go_meet
                    exact ⟨rfl, _, _, JN⟩
                  · rw [if_pos (by rfl)]
                    refine wp_build_run 110 _ rfl [(0, .agg (idV (cidL bv)).toArray)] (by first | (simp [Act.eval]; done) | simp [Act.eval, Act.put]) _ HBu.out ?_
                    refine hK.out _ _ hHeld (fun hHeld2 => ?_)
                    clear hHeld hK K
                    have hHeld := hHeld2
                    clear hHeld2
                    refine wpAnyH_ready (rs := [4, 7]) (by kernel_rfl) (by simp) ?_
                    refine (AllReadyH.cons rfl (fun K hK => ?_) (AllReadyH.cons rfl (fun K hK => ?_) AllReadyH.nil))
                    · have q4 : V0.cell? ⟨RB, 45, none⟩ = some (v 0) := J1.cell 0 hrow
                      go_simp
                      refine hK.out _ _ hHeld (fun hHeld2 => ?_)
                      clear q4
                      clear hHeld hK K
                      have hHeld := hHeld2
                      clear hHeld2
                      refine wpAnyH_ready (rs := [7]) (by kernel_rfl) (by simp) ?_
                      refine (AllReadyH.cons rfl (fun K hK => ?_) AllReadyH.nil)
                      rw [if_pos (by rfl)]
                      refine wp_buildSlice 70 110 1 _ rfl (peerV (cidL bv)).toArray i0 (.agg zeroP) Yba.underlying70 hi0 HZ0.out (by rw [hz1]; decide) (by rw [hz1]; decide) (Eq.trans (congrArg _ (by first | (simp [Act.eval]; done) | simp [Act.eval, Act.put])) HFl.out) ?_
                      obtain ⟨X, hX⟩ : ∃ q, q = V0.heap.size := ⟨_, rfl⟩
                      have N8 : At (V0.alloc (.cells (peerV (cidL bv)).toArray 110)) X (peerV (cidL bv)).toArray 110 := by rw [hX]; exact At.new _ _ _
                      replace J1 := J1.gr OK.out ((Gr.refl V0).alloc (.cells (peerV (cidL bv)).toArray 110))
                      replace aP := aP.gr ((Gr.refl V0).alloc (.cells (peerV (cidL bv)).toArray 110))
                      rw [← hX]
                      refine hK.out _ _ (HKeep.out _ _ J1.mb aP) (fun hHeld2 => ?_)
                      generalize V0.alloc (.cells (peerV (cidL bv)).toArray 110) = V6 at *
                      clear hX
                      clear hHeld hK K
                      have hHeld := hHeld2
                      clear hHeld2
                      refine wpAnyH_ready (rs := [8]) (by kernel_rfl) (by simp) ?_
                      refine AllReadyH.cons rfl (fun K hK => ?_) AllReadyH.nil
                      rw [if_pos (by rfl)]
                      refine wp_append_lies _ _ _ 70 rfl S 110 i0 _ 24 56 Yba.underlying70 hi0 HZ0.out hz1 hz2 size_zeroP (by omega) (v 0) (ids 0).length ((ids 0).flatMap peerV) (by rfl) (J1.rows.row 0).own ⟨X, 0, none⟩ 1 1 (peerV (cidL bv)) (by rfl) (by rw [length_peerV _ (length_cidL bv)]) (fun j u hj => by rw [Addr.add_mid, N8.cell, Nat.zero_add]; simpa using hj) (peerV_one (cidL bv)) (by omega) (by have := J1.len 0; unfold maxLen; omega) (by have := J1.len 0; omega) (J1.size OK.out) _ rfl ?_
                      intro g cap V9 hown hgrow hat hlt
                      have hfin := J1.app OK.out 0 hrow (cidL bv) (length_cidL bv) hown hgrow hat
                      have aP9 : At V9 PB (idV (cidL bv)).toArray 37 := aP.of_heap (hgrow.block PB aP.lt (fun e => J1.own aP (by decide) 0 PB e.symm rfl))
                      have hRP : PB ≠ RB := by obtain ⟨C, a, _⟩ := J1.mb.rb; exact aP.ne a (by decide)
                      have aP10 := aP9.setOther ⟨RB, 45, none⟩ (.slice (some ⟨g, 0, none⟩) ((ids 0).length + 1) cap) hRP
                      have hH9 := HKeep.out _ _ hfin.2.2.1 aP9
                      have hH10 := HKeep.out _ _ hfin.2.2.2.mb aP10
                      refine hK.out _ _ hH9 (fun _ => ?_)
                      clear hK K hown hgrow hat hlt hHeld aP J1 N8
                      refine wpAnyH_ready (rs := [9]) (by kernel_rfl) (by simp) ?_
                      refine AllReadyH.cons rfl (fun K hK => ?_) AllReadyH.nil
                      go_simp
                      refine hK.out _ _ hH9 (fun _ => ?_)
                      clear hK K
                      refine wpAnyH_ready (rs := [10]) (by kernel_rfl) (by simp) ?_
                      refine AllReadyH.cons rfl (fun K hK => ?_) AllReadyH.nil
                      go_simp
                      refine hK.out _ _ hH9 (fun _ => ?_)
                      clear hK K
                      refine wpAnyH_ready (rs := [11]) (by kernel_rfl) (by simp) ?_
                      refine AllReadyH.cons rfl (fun K hK => ?_) AllReadyH.nil
                      have q11 : V9.cell? ⟨RB, 45, none⟩ = some (v 0) := hfin.1
                      have f11 : V9.frozen? ⟨RB, 45, none⟩ = false := hfin.2.1
                      go_simp
                      refine hK.out _ _ hH10 (fun _ => ?_)
                      clear hK K q11 f11 hH9 hH10
                      have JN : Hid (LW (mkK MB RB (S + 1 + 1 + 1) SU WA D (S + 1 + 1 + 1 + 1) S SB Q nr x t (cidL n0) (cidL n1) rel hand wat w) (1 + 4 * i + 0 + 1) (upd v 0 (.slice (some ⟨g, 0, none⟩) ((ids 0).length + 1) cap)) (upd ids 0 (ids 0 ++ [(cidL bv)])) sus (V9.setCell ⟨RB, 45, none⟩ (.slice (some ⟨g, 0, none⟩) ((ids 0).length + 1) cap)) ∧ At (V9.setCell ⟨RB, 45, none⟩ (.slice (some ⟨g, 0, none⟩) ((ids 0).length + 1) cap)) PB (idV (cidL bv)).toArray 37) := ⟨hfin.2.2.2, aP10⟩
                      clear hfin aP9 aP10 hRP
                      refine wpAnyH_done (by kernel_rfl) ?_ _
                      go_wp2
                      go_meet
                      exact ⟨rfl, _, _, JN⟩
                    · rw [if_pos (by rfl)]
                      refine wp_buildSlice 70 110 1 _ rfl (peerV (cidL bv)).toArray i0 (.agg zeroP) Yba.underlying70 hi0 HZ0.out (by rw [hz1]; decide) (by rw [hz1]; decide) (Eq.trans (congrArg _ (by first | (simp [Act.eval]; done) | simp [Act.eval, Act.put])) HFl.out) ?_
                      obtain ⟨X, hX⟩ : ∃ q, q = V0.heap.size := ⟨_, rfl⟩
                      have N8 : At (V0.alloc (.cells (peerV (cidL bv)).toArray 110)) X (peerV (cidL bv)).toArray 110 := by rw [hX]; exact At.new _ _ _
                      replace J1 := J1.gr OK.out ((Gr.refl V0).alloc (.cells (peerV (cidL bv)).toArray 110))
                      replace aP := aP.gr ((Gr.refl V0).alloc (.cells (peerV (cidL bv)).toArray 110))
                      rw [← hX]
                      refine hK.out _ _ (HKeep.out _ _ J1.mb aP) (fun hHeld2 => ?_)
                      generalize V0.alloc (.cells (peerV (cidL bv)).toArray 110) = V7 at *
                      clear hX
                      clear hHeld hK K
                      have hHeld := hHeld2
                      clear hHeld2
                      refine wpAnyH_ready (rs := [4]) (by kernel_rfl) (by simp) ?_
                      refine (AllReadyH.cons rfl (fun K hK => ?_) AllReadyH.nil)
                      have q4 : V7.cell? ⟨RB, 45, none⟩ = some (v 0) := J1.cell 0 hrow
                      go_simp
                      refine hK.out _ _ hHeld (fun hHeld2 => ?_)
                      clear q4
                      clear hHeld hK K
                      have hHeld := hHeld2
                      clear hHeld2
                      refine wpAnyH_ready (rs := [8]) (by kernel_rfl) (by simp) ?_
                      refine AllReadyH.cons rfl (fun K hK => ?_) AllReadyH.nil
                      rw [if_pos (by rfl)]
                      refine wp_append_lies _ _ _ 70 rfl S 110 i0 _ 24 56 Yba.underlying70 hi0 HZ0.out hz1 hz2 size_zeroP (by omega) (v 0) (ids 0).length ((ids 0).flatMap peerV) (by rfl) (J1.rows.row 0).own ⟨X, 0, none⟩ 1 1 (peerV (cidL bv)) (by rfl) (by rw [length_peerV _ (length_cidL bv)]) (fun j u hj => by rw [Addr.add_mid, N8.cell, Nat.zero_add]; simpa using hj) (peerV_one (cidL bv)) (by omega) (by have := J1.len 0; unfold maxLen; omega) (by have := J1.len 0; omega) (J1.size OK.out) _ rfl ?_
                      intro g cap V9 hown hgrow hat hlt
                      have hfin := J1.app OK.out 0 hrow (cidL bv) (length_cidL bv) hown hgrow hat
                      have aP9 : At V9 PB (idV (cidL bv)).toArray 37 := aP.of_heap (hgrow.block PB aP.lt (fun e => J1.own aP (by decide) 0 PB e.symm rfl))
                      have hRP : PB ≠ RB := by obtain ⟨C, a, _⟩ := J1.mb.rb; exact aP.ne a (by decide)
                      have aP10 := aP9.setOther ⟨RB, 45, none⟩ (.slice (some ⟨g, 0, none⟩) ((ids 0).length + 1) cap) hRP
                      have hH9 := HKeep.out _ _ hfin.2.2.1 aP9
                      have hH10 := HKeep.out _ _ hfin.2.2.2.mb aP10
                      refine hK.out _ _ hH9 (fun _ => ?_)
                      clear hK K hown hgrow hat hlt hHeld aP J1 N8
                      refine wpAnyH_ready (rs := [9]) (by kernel_rfl) (by simp) ?_
                      refine AllReadyH.cons rfl (fun K hK => ?_) AllReadyH.nil
                      go_simp
                      refine hK.out _ _ hH9 (fun _ => ?_)
                      clear hK K
                      refine wpAnyH_ready (rs := [10]) (by kernel_rfl) (by simp) ?_
                      refine AllReadyH.cons rfl (fun K hK => ?_) AllReadyH.nil
                      go_simp
                      refine hK.out _ _ hH9 (fun _ => ?_)
                      clear hK K
                      refine wpAnyH_ready (rs := [11]) (by kernel_rfl) (by simp) ?_
                      refine AllReadyH.cons rfl (fun K hK => ?_) AllReadyH.nil
                      have q11 : V9.cell? ⟨RB, 45, none⟩ = some (v 0) := hfin.1
                      have f11 : V9.frozen? ⟨RB, 45, none⟩ = false := hfin.2.1
                      go_simp
                      refine hK.out _ _ hH10 (fun _ => ?_)
                      clear hK K q11 f11 hH9 hH10
                      have JN : Hid (LW (mkK MB RB (S + 1 + 1 + 1) SU WA D (S + 1 + 1 + 1 + 1) S SB Q nr x t (cidL n0) (cidL n1) rel hand wat w) (1 + 4 * i + 0 + 1) (upd v 0 (.slice (some ⟨g, 0, none⟩) ((ids 0).length + 1) cap)) (upd ids 0 (ids 0 ++ [(cidL bv)])) sus (V9.setCell ⟨RB, 45, none⟩ (.slice (some ⟨g, 0, none⟩) ((ids 0).length + 1) cap)) ∧ At (V9.setCell ⟨RB, 45, none⟩ (.slice (some ⟨g, 0, none⟩) ((ids 0).length + 1) cap)) PB (idV (cidL bv)).toArray 37) := ⟨hfin.2.2.2, aP10⟩
                      clear hfin aP9 aP10 hRP
                      refine wpAnyH_done (by kernel_rfl) ?_ _
                      go_wp2
                      go_meet
                      exact ⟨rfl, _, _, JN⟩
                case rest =>
                  obtain ⟨rfl, v, ids, HPB⟩ := hcut
                  go_upto_if 123 with fail
                  go_cut [33] from 122 to 134 (fun s33 wx => s33 = .pointer (some ⟨PB, 0, none⟩) ∧ ∃ v ids, Hid (LW (mkK MB RB (S + 1 + 1 + 1) SU WA D (S + 1 + 1 + 1 + 1) S SB Q nr x t (cidL n0) (cidL n1) rel hand wat w) (1 + 4 * i + 1 + 1) v ids sus wx ∧ At wx PB (idV (cidL bv)).toArray 37))
                  case first =>
                    by_cases hn1 : 1 < nr
                    · have hn1z : (1 : Int) < (nr : Int) := by omega
                      have hn1d : decide ((nr : Int) > 1) = true := decide_eq_true hn1z
                      go_upto_region 25 with fail
                      obtain ⟨i0, hi0, hz0, hz1, hz2⟩ := info_parts info110
                      have HZ0 := hide hz0
                      have HFl := hide (fill_peer i0 hz1 (cidL bv) (length_cidL bv))
                      have HBu := hide (built110 (cidL bv) (length_cidL bv))
                      have hu37 := Yba.underlying37
                      have hil37 : (Yba.prog.info? 37).map (·.size) = some (idV (cidL bv)).length := by rw [length_idV, length_cidL]; kernel_rfl
                      have J1 := HPB.out.1.gr OK.out ((Gr.refl wc).drew)
                      have aP := HPB.out.2.gr ((Gr.refl wc).drew)
                      have hrow : 1 < 2 + nr := by omega
                      have HKeep : Hid (∀ (v : Nat → Value) (V : World), Mb ((mkK MB RB (S + 1 + 1 + 1) SU WA D (S + 1 + 1 + 1 + 1) S SB Q nr x t (cidL n0) (cidL n1) rel hand wat w).cs sus) D (S + 1 + 1 + 1 + 1) [] v V → At V PB (idV (cidL bv)).toArray 37 → V.rangeAt PB 0 (idV (cidL bv))) := fun _ V _ a => a.all
                      clear HPB
                      refine wp_region_held_drew (S := fun W => W.rangeAt PB 0 (idV (cidL bv))) (by kernel_rfl) aP.all (fun hHeld => ?_)
                      refine wpAnyH_take (i := 0) (v := ?_) rfl (by kernel_rfl) (by kernel_rfl) (by kernel_rfl) (fun _ _ _ h => h) (Or.inl ⟨by rfl, ?_⟩) (by assumption) ?_
                      rotate_left
                      · intro w hSw; go_simp; try with_reducible rfl
                      refine wpAnyH_take (i := 1) (v := ?_) rfl (by kernel_rfl) (by kernel_rfl) (by kernel_rfl) (fun _ _ _ h => h) (Or.inl ⟨by rfl, ?_⟩) (by assumption) ?_
                      rotate_left
                      · intro w hSw; go_simp; try with_reducible rfl
                      simp only [Act.put, List.getElem_toArray, List.getElem_cons_succ, List.getElem_cons_zero, List.setIfInBounds_toArray, List.set_cons_zero, List.set_cons_succ]
                      refine wpAnyH_take (i := 5) (v := _) rfl (by kernel_rfl) (by kernel_rfl) (by kernel_rfl) (fun _ _ _ h => h) (yieldsIf_load_mid (by rfl) 37 _ rfl PB 0 rfl (idV (cidL bv)) _ (fun W h => h) hu37 rfl hil37) (by assumption) ?_
                      refine wpAnyH_take (i := 2) (v := ?_) rfl (by kernel_rfl) (by kernel_rfl) (by kernel_rfl) (fun _ _ _ h => h) (Or.inl ⟨by rfl, ?_⟩) (by assumption) ?_
                      rotate_left
                      · intro w hSw; go_simp; try with_reducible rfl
                      refine wpAnyH_take (i := 3) (v := ?_) rfl (by kernel_rfl) (by kernel_rfl) (by kernel_rfl) (fun _ _ _ h => h) (Or.inl ⟨by rfl, ?_⟩) (by assumption) ?_
                      rotate_left
                      · intro w hSw; go_simp; try with_reducible rfl
                      simp only [Act.put, List.getElem_toArray, List.getElem_cons_succ, List.getElem_cons_zero, List.setIfInBounds_toArray, List.set_cons_zero, List.set_cons_succ]
                      generalize wc.drew = V0 at *
                      refine wpAnyH_ready (rs := [4, 6]) (by kernel_rfl) (by simp) ?_
                      refine (AllReadyH.cons rfl (fun K hK => ?_) (AllReadyH.cons rfl (fun K hK => ?_) AllReadyH.nil))
                      · have q4 : V0.cell? ⟨RB, 46, none⟩ = some (v 1) := J1.cell 1 hrow
                        go_simp
                        refine hK.out _ _ hHeld (fun hHeld2 => ?_)
                        clear q4
                        clear hHeld hK K
                        have hHeld := hHeld2
                        clear hHeld2
                        refine wpAnyH_ready (rs := [6]) (by kernel_rfl) (by simp) ?_
                        refine (AllReadyH.cons rfl (fun K hK => ?_) AllReadyH.nil)
                        rw [if_pos (by rfl)]
                        refine wp_build_run 110 _ rfl [(0, .agg (idV (cidL bv)).toArray)] (by first | (simp [Act.eval]; done) | simp [Act.eval, Act.put]) _ HBu.out ?_
                        refine hK.out _ _ hHeld (fun hHeld2 => ?_)
                        clear hHeld hK K
                        have hHeld := hHeld2
                        clear hHeld2
                        refine wpAnyH_ready (rs := [7]) (by kernel_rfl) (by simp) ?_
                        refine (AllReadyH.cons rfl (fun K hK => ?_) AllReadyH.nil)
                        rw [if_pos (by rfl)]
                        refine wp_buildSlice 70 110 1 _ rfl (peerV (cidL bv)).toArray i0 (.agg zeroP) Yba.underlying70 hi0 HZ0.out (by rw [hz1]; decide) (by rw [hz1]; decide) (Eq.trans (congrArg _ (by first | (simp [Act.eval]; done) | simp [Act.eval, Act.put])) HFl.out) ?_
                        obtain ⟨X, hX⟩ : ∃ q, q = V0.heap.size := ⟨_, rfl⟩
                        have N8 : At (V0.alloc (.cells (peerV (cidL bv)).toArray 110)) X (peerV (cidL bv)).toArray 110 := by rw [hX]; exact At.new _ _ _
                        replace J1 := J1.gr OK.out ((Gr.refl V0).alloc (.cells (peerV (cidL bv)).toArray 110))
                        replace aP := aP.gr ((Gr.refl V0).alloc (.cells (peerV (cidL bv)).toArray 110))
                        rw [← hX]
                        refine hK.out _ _ (HKeep.out _ _ J1.mb aP) (fun hHeld2 => ?_)
                        generalize V0.alloc (.cells (peerV (cidL bv)).toArray 110) = V3 at *
                        clear hX
                        clear hHeld hK K
                        have hHeld := hHeld2
                        clear hHeld2
                        refine wpAnyH_ready (rs := [8]) (by kernel_rfl) (by simp) ?_
                        refine AllReadyH.cons rfl (fun K hK => ?_) AllReadyH.nil
                        rw [if_pos (by rfl)]
                        refine wp_append_lies _ _ _ 70 rfl S 110 i0 _ 24 56 Yba.underlying70 hi0 HZ0.out hz1 hz2 size_zeroP (by omega) (v 1) (ids 1).length ((ids 1).flatMap peerV) (by rfl) (J1.rows.row 1).own ⟨X, 0, none⟩ 1 1 (peerV (cidL bv)) (by rfl) (by rw [length_peerV _ (length_cidL bv)]) (fun j u hj => by rw [Addr.add_mid, N8.cell, Nat.zero_add]; simpa using hj) (peerV_one (cidL bv)) (by omega) (by have := J1.len 1; unfold maxLen; omega) (by have := J1.len 1; omega) (J1.size OK.out) _ rfl ?_
                        intro g cap V9 hown hgrow hat hlt
                        have hfin := J1.app OK.out 1 hrow (cidL bv) (length_cidL bv) hown hgrow hat
                        have aP9 : At V9 PB (idV (cidL bv)).toArray 37 := aP.of_heap (hgrow.block PB aP.lt (fun e => J1.own aP (by decide) 1 PB e.symm rfl))
                        have hRP : PB ≠ RB := by obtain ⟨C, a, _⟩ := J1.mb.rb; exact aP.ne a (by decide)
                        have aP10 := aP9.setOther ⟨RB, 46, none⟩ (.slice (some ⟨g, 0, none⟩) ((ids 1).length + 1) cap) hRP
                        have hH9 := HKeep.out _ _ hfin.2.2.1 aP9
                        have hH10 := HKeep.out _ _ hfin.2.2.2.mb aP10
                        refine hK.out _ _ hH9 (fun _ => ?_)
                        clear hK K hown hgrow hat hlt hHeld aP J1 N8
                        refine wpAnyH_ready (rs := [9]) (by kernel_rfl) (by simp) ?_
                        refine AllReadyH.cons rfl (fun K hK => ?_) AllReadyH.nil
                        go_simp
                        refine hK.out _ _ hH9 (fun _ => ?_)
                        clear hK K
                        refine wpAnyH_ready (rs := [10]) (by kernel_rfl) (by simp) ?_
                        refine AllReadyH.cons rfl (fun K hK => ?_) AllReadyH.nil
                        go_simp
                        refine hK.out _ _ hH9 (fun _ => ?_)
                        clear hK K
                        refine wpAnyH_ready (rs := [11]) (by kernel_rfl) (by simp) ?_
                        refine AllReadyH.cons rfl (fun K hK => ?_) AllReadyH.nil
                        have q11 : V9.cell? ⟨RB, 46, none⟩ = some (v 1) := hfin.1
                        have f11 : V9.frozen? ⟨RB, 46, none⟩ = false := hfin.2.1
                        go_simp
                        refine hK.out _ _ hH10 (fun _ => ?_)
                        clear hK K q11 f11 hH9 hH10
                        have JN : Hid (LW (mkK MB RB (S + 1 + 1 + 1) SU WA D (S + 1 + 1 + 1 + 1) S SB Q nr x t (cidL n0) (cidL n1) rel hand wat w) (1 + 4 * i + 1 + 1) (upd v 1 (.slice (some ⟨g, 0, none⟩) ((ids 1).length + 1) cap)) (upd ids 1 (ids 1 ++ [(cidL bv)])) sus (V9.setCell ⟨RB, 46, none⟩ (.slice (some ⟨g, 0, none⟩) ((ids 1).length + 1) cap)) ∧ At (V9.setCell ⟨RB, 46, none⟩ (.slice (some ⟨g, 0, none⟩) ((ids 1).length + 1) cap)) PB (idV (cidL bv)).toArray 37) := ⟨hfin.2.2.2, aP10⟩
                        clear hfin aP9 aP10 hRP
                        refine wpAnyH_done (by kernel_rfl) ?_ _
                        go_wp2
                        go_meet
                        exact ⟨rfl, _, _, JN⟩
                      · rw [if_pos (by rfl)]
                        refine wp_build_run 110 _ rfl [(0, .agg (idV (cidL bv)).toArray)] (by first | (simp [Act.eval]; done) | simp [Act.eval, Act.put]) _ HBu.out ?_
                        refine hK.out _ _ hHeld (fun hHeld2 => ?_)
                        clear hHeld hK K
                        have hHeld := hHeld2
                        clear hHeld2
                        refine wpAnyH_ready (rs := [4, 7]) (by kernel_rfl) (by simp) ?_
                        refine (AllReadyH.cons rfl (fun K hK => ?_) (AllReadyH.cons rfl (fun K hK => ?_) AllReadyH.nil))
                        · have q4 : V0.cell? ⟨RB, 46, none⟩ = some (v 1) := J1.cell 1 hrow
                          go_simp
                          refine hK.out _ _ hHeld (fun hHeld2 => ?_)
                          clear q4
                          clear hHeld hK K
                          have hHeld := hHeld2
                          clear hHeld2
                          refine wpAnyH_ready (rs := [7]) (by kernel_rfl) (by simp) ?_
                          refine (AllReadyH.cons rfl (fun K hK => ?_) AllReadyH.nil)
                          rw [if_pos (by rfl)]
                          refine wp_buildSlice 70 110 1 _ rfl (peerV (cidL bv)).toArray i0 (.agg zeroP) Yba.underlying70 hi0 HZ0.out (by rw [hz1]; decide) (by rw [hz1]; decide) (Eq.trans (congrArg _ (by first | (simp [Act.eval]; done) | simp [Act.eval, Act.put])) HFl.out) ?_
                          obtain ⟨X, hX⟩ : ∃ q, q = V0.heap.size := ⟨_, rfl⟩
                          have N8 : At (V0.alloc (.cells (peerV (cidL bv)).toArray 110)) X (peerV (cidL bv)).toArray 110 := by rw [hX]; exact At.new _ _ _
                          replace J1 := J1.gr OK.out ((Gr.refl V0).alloc (.cells (peerV (cidL bv)).toArray 110))
                          replace aP := aP.gr ((Gr.refl V0).alloc (.cells (peerV (cidL bv)).toArray 110))
                          rw [← hX]
                          refine hK.out _ _ (HKeep.out _ _ J1.mb aP) (fun hHeld2 => ?_)
                          generalize V0.alloc (.cells (peerV (cidL bv)).toArray 110) = V6 at *
                          clear hX
                          clear hHeld hK K
                          have hHeld := hHeld2
                          clear hHeld2
                          refine wpAnyH_ready (rs := [8]) (by kernel_rfl) (by simp) ?_
                          refine AllReadyH.cons rfl (fun K hK => ?_) AllReadyH.nil
                          rw [if_pos (by rfl)]
                          refine wp_append_lies _ _ _ 70 rfl S 110 i0 _ 24 56 Yba.underlying70 hi0 HZ0.out hz1 hz2 size_zeroP (by omega) (v 1) (ids 1).length ((ids 1).flatMap peerV) (by rfl) (J1.rows.row 1).own ⟨X, 0, none⟩ 1 1 (peerV (cidL bv)) (by rfl) (by rw [length_peerV _ (length_cidL bv)]) (fun j u hj => by rw [Addr.add_mid, N8.cell, Nat.zero_add]; simpa using hj) (peerV_one (cidL bv)) (by omega) (by have := J1.len 1; unfold maxLen; omega) (by have := J1.len 1; omega) (J1.size OK.out) _ rfl ?_
                          intro g cap V9 hown hgrow hat hlt
                          have hfin := J1.app OK.out 1 hrow (cidL bv) (length_cidL bv) hown hgrow hat
                          have aP9 : At V9 PB (idV (cidL bv)).toArray 37 := aP.of_heap (hgrow.block PB aP.lt (fun e => J1.own aP (by decide) 1 PB e.symm rfl))
                          have hRP : PB ≠ RB := by obtain ⟨C, a, _⟩ := J1.mb.rb; exact aP.ne a (by decide)
                          have aP10 := aP9.setOther ⟨RB, 46, none⟩ (.slice (some ⟨g, 0, none⟩) ((ids 1).length + 1) cap) hRP
                          have hH9 := HKeep.out _ _ hfin.2.2.1 aP9
                          have hH10 := HKeep.out _ _ hfin.2.2.2.mb aP10
                          refine hK.out _ _ hH9 (fun _ => ?_)
                          clear hK K hown hgrow hat hlt hHeld aP J1 N8
                          refine wpAnyH_ready (rs := [9]) (by kernel_rfl) (by simp) ?_
                          refine AllReadyH.cons rfl (fun K hK => ?_) AllReadyH.nil
                          go_simp
                          refine hK.out _ _ hH9 (fun _ => ?_)
                          clear hK K
                          refine wpAnyH_ready (rs := [10]) (by kernel_rfl) (by simp) ?_
                          refine AllReadyH.cons rfl (fun K hK => ?_) AllReadyH.nil
                          go_simp
                          refine hK.out _ _ hH9 (fun _ => ?_)
                          clear hK K
                          refine wpAnyH_ready (rs := [11]) (by kernel_rfl) (by simp) ?_
                          refine AllReadyH.cons rfl (fun K hK => ?_) AllReadyH.nil
                          have q11 : V9.cell? ⟨RB, 46, none⟩ = some (v 1) := hfin.1
                          have f11 : V9.frozen? ⟨RB, 46, none⟩ = false := hfin.2.1
                          go_simp
                          refine hK.out _ _ hH10 (fun _ => ?_)
                          clear hK K q11 f11 hH9 hH10
                          have JN : Hid (LW (mkK MB RB (S + 1 + 1 + 1) SU WA D (S + 1 + 1 + 1 + 1) S SB Q nr x t (cidL n0) (cidL n1) rel hand wat w) (1 + 4 * i + 1 + 1) (upd v 1 (.slice (some ⟨g, 0, none⟩) ((ids 1).length + 1) cap)) (upd ids 1 (ids 1 ++ [(cidL bv)])) sus (V9.setCell ⟨RB, 46, none⟩ (.slice (some ⟨g, 0, none⟩) ((ids 1).length + 1) cap)) ∧ At (V9.setCell ⟨RB, 46, none⟩ (.slice (some ⟨g, 0, none⟩) ((ids 1).length + 1) cap)) PB (idV (cidL bv)).toArray 37) := ⟨hfin.2.2.2, aP10⟩
                          clear hfin aP9 aP10 hRP
                          refine wpAnyH_done (by kernel_rfl) ?_ _
                          go_wp2
                          go_meet
                          exact ⟨rfl, _, _, JN⟩
                        · rw [if_pos (by rfl)]
                          refine wp_buildSlice 70 110 1 _ rfl (peerV (cidL bv)).toArray i0 (.agg zeroP) Yba.underlying70 hi0 HZ0.out (by rw [hz1]; decide) (by rw [hz1]; decide) (Eq.trans (congrArg _ (by first | (simp [Act.eval]; done) | simp [Act.eval, Act.put])) HFl.out) ?_
                          obtain ⟨X, hX⟩ : ∃ q, q = V0.heap.size := ⟨_, rfl⟩
                          have N8 : At (V0.alloc (.cells (peerV (cidL bv)).toArray 110)) X (peerV (cidL bv)).toArray 110 := by rw [hX]; exact At.new _ _ _
                          replace J1 := J1.gr OK.out ((Gr.refl V0).alloc (.cells (peerV (cidL bv)).toArray 110))
                          replace aP := aP.gr ((Gr.refl V0).alloc (.cells (peerV (cidL bv)).toArray 110))
                          rw [← hX]
                          refine hK.out _ _ (HKeep.out _ _ J1.mb aP) (fun hHeld2 => ?_)
                          generalize V0.alloc (.cells (peerV (cidL bv)).toArray 110) = V7 at *
                          clear hX
                          clear hHeld hK K
                          have hHeld := hHeld2
                          clear hHeld2
                          refine wpAnyH_ready (rs := [4]) (by kernel_rfl) (by simp) ?_
                          refine (AllReadyH.cons rfl (fun K hK => ?_) AllReadyH.nil)
                          have q4 : V7.cell? ⟨RB, 46, none⟩ = some (v 1) := J1.cell 1 hrow
                          go_simp
                          refine hK.out _ _ hHeld (fun hHeld2 => ?_)
                          clear q4
                          clear hHeld hK K
                          have hHeld := hHeld2
                          clear hHeld2
                          refine wpAnyH_ready (rs := [8]) (by kernel_rfl) (by simp) ?_
                          refine AllReadyH.cons rfl (fun K hK => ?_) AllReadyH.nil
                          rw [if_pos (by rfl)]
                          refine wp_append_lies _ _ _ 70 rfl S 110 i0 _ 24 56 Yba.underlying70 hi0 HZ0.out hz1 hz2 size_zeroP (by omega) (v 1) (ids 1).length ((ids 1).flatMap peerV) (by rfl) (J1.rows.row 1).own ⟨X, 0, none⟩ 1 1 (peerV (cidL bv)) (by rfl) (by rw [length_peerV _ (length_cidL bv)]) (fun j u hj => by rw [Addr.add_mid, N8.cell, Nat.zero_add]; simpa using hj) (peerV_one (cidL bv)) (by omega) (by have := J1.len 1; unfold maxLen; omega) (by have := J1.len 1; omega) (J1.size OK.out) _ rfl ?_
                          intro g cap V9 hown hgrow hat hlt
                          have hfin := J1.app OK.out 1 hrow (cidL bv) (length_cidL bv) hown hgrow hat
                          have aP9 : At V9 PB (idV (cidL bv)).toArray 37 := aP.of_heap (hgrow.block PB aP.lt (fun e => J1.own aP (by decide) 1 PB e.symm rfl))
                          have hRP : PB ≠ RB := by obtain ⟨C, a, _⟩ := J1.mb.rb; exact aP.ne a (by decide)
                          have aP10 := aP9.setOther ⟨RB, 46, none⟩ (.slice (some ⟨g, 0, none⟩) ((ids 1).length + 1) cap) hRP
                          have hH9 := HKeep.out _ _ hfin.2.2.1 aP9
                          have hH10 := HKeep.out _ _ hfin.2.2.2.mb aP10
                          refine hK.out _ _ hH9 (fun _ => ?_)
                          clear hK K hown hgrow hat hlt hHeld aP J1 N8
                          refine wpAnyH_ready (rs := [9]) (by kernel_rfl) (by simp) ?_
                          refine AllReadyH.cons rfl (fun K hK => ?_) AllReadyH.nil
                          go_simp
                          refine hK.out _ _ hH9 (fun _ => ?_)
                          clear hK K
                          refine wpAnyH_ready (rs := [10]) (by kernel_rfl) (by simp) ?_
                          refine AllReadyH.cons rfl (fun K hK => ?_) AllReadyH.nil
                          go_simp
                          refine hK.out _ _ hH9 (fun _ => ?_)
                          clear hK K
                          refine wpAnyH_ready (rs := [11]) (by kernel_rfl) (by simp) ?_
                          refine AllReadyH.cons rfl (fun K hK => ?_) AllReadyH.nil
                          have q11 : V9.cell? ⟨RB, 46, none⟩ = some (v 1) := hfin.1
                          have f11 : V9.frozen? ⟨RB, 46, none⟩ = false := hfin.2.1
                          go_simp
                          refine hK.out _ _ hH10 (fun _ => ?_)
                          clear hK K q11 f11 hH9 hH10
                          have JN : Hid (LW (mkK MB RB (S + 1 + 1 + 1) SU WA D (S + 1 + 1 + 1 + 1) S SB Q nr x t (cidL n0) (cidL n1) rel hand wat w) (1 + 4 * i + 1 + 1) (upd v 1 (.slice (some ⟨g, 0, none⟩) ((ids 1).length + 1) cap)) (upd ids 1 (ids 1 ++ [(cidL bv)])) sus (V9.setCell ⟨RB, 46, none⟩ (.slice (some ⟨g, 0, none⟩) ((ids 1).length + 1) cap)) ∧ At (V9.setCell ⟨RB, 46, none⟩ (.slice (some ⟨g, 0, none⟩) ((ids 1).length + 1) cap)) PB (idV (cidL bv)).toArray 37) := ⟨hfin.2.2.2, aP10⟩
                          clear hfin aP9 aP10 hRP
                          refine wpAnyH_done (by kernel_rfl) ?_ _
                          go_wp2
                          go_meet
                          exact ⟨rfl, _, _, JN⟩
                    · have hn1z : ¬ (nr : Int) > 1 := by omega
                      have hn1d : decide ((nr : Int) > 1) = false := decide_eq_false hn1z
                      go_wp2_with fail
                      go_meet
                      exact ⟨rfl, v, ids, HPB.out.1.mono (by omega), HPB.out.2⟩
                  case rest =>
                    obtain ⟨rfl, v, ids, HPB⟩ := hcut
                    go_upto_if 137 with fail
                    go_cut [33, 35] from 135 to 166 (fun s33 s35 wx => s33 = .pointer (some ⟨PB, 0, none⟩) ∧ ∃ v ids, Hid (LW (mkK MB RB (S + 1 + 1 + 1) SU WA D (S + 1 + 1 + 1 + 1) S SB Q nr x t (cidL n0) (cidL n1) rel hand wat w) (1 + 4 * i + 2 + 2) v ids sus wx ∧ At wx PB (idV (cidL bv)).toArray 37))
                    case first =>
                      obtain ⟨q1, hq1⟩ : ∃ q1, q1 = bits BinOp.and IntKind.u8 (fl : Int) 1 := ⟨_, rfl⟩
                      rw [← hq1]
                      clear hq1
                      by_cases hq0 : q1 = 0
                      · have hq0d : (q1 != 0) = false := by simp [hq0]
                        go_wp2_with fail
                        go_meet
                        exact ⟨rfl, v, ids, HPB.out.1.mono (by omega), HPB.out.2⟩
                      · have hq0d : (q1 != 0) = true := by simp [hq0]
                        rw [hq0d]
                        clear hq0d
                        go_wp2_with fail
                        go_loopg [35] nr (fun gg s35 wr => ∃ r : Nat, s35 = .int .i64 r ∧ r ≤ nr ∧ nr - r ≤ gg ∧ ∃ v ids, Hid (LW (mkK MB RB (S + 1 + 1 + 1) SU WA D (S + 1 + 1 + 1 + 1) S SB Q nr x t (cidL n0) (cidL n1) rel hand wat w) (1 + 4 * i + 2 + r) v ids sus wr ∧ At wr PB (idV (cidL bv)).toArray 37))
                        case atStart => exact ⟨0, rfl, Nat.zero_le _, by omega, v, ids, HPB⟩
                        case round =>
                          clear HPB
                          obtain ⟨r, rfl, hrle, hg1, v, ids, HPB⟩ := hrel
                          by_cases hrn : r < nr
                          · have hrz : (r : Int) < (nr : Int) := by omega
                            have hrz0 : (0 : Int) ≤ (r : Int) := by omega
                            go_upto_region 30 with fail
                            have ho : off (2 + r) = r * 47 + 21 := by
                              obtain rfl | rfl : r = 0 ∨ r = 1 := by omega
                              · rfl
                              · rfl
                            have hvl := length_viewL x r (cidL bv) (length_cidL bv)
                            obtain ⟨i0, hi0, hz0, hz1, hz2⟩ := info_parts info110
                            have HZ0 := hide hz0
                            have HFl := hide (fill_peer i0 hz1 (viewL x r (cidL bv)) hvl)
                            have HBu := hide (built110 (viewL x r (cidL bv)) hvl)
                            have H22 := hide (fun W => view_calls W (x : Int) (t : Int) x hx2 (cidL bv) (length_cidL bv) r)
                            have hu37 := Yba.underlying37
                            have hu51 := Yba.underlying51
                            have hil37 : (Yba.prog.info? 37).map (·.size) = some (idV (cidL bv)).length := by rw [length_idV, length_cidL]; kernel_rfl
                            have hi51 : (Yba.prog.info? 51).map (·.size) = some [Value.int .i64 (x : Int), .int .i64 (x : Int), .int .i64 (t : Int)].length := by kernel_rfl
                            have J1 := HPB.out.1.gr OK.out ((Gr.refl wr).drew)
                            have aP := HPB.out.2.gr ((Gr.refl wr).drew)
                            have hrow : (2 + r) < 2 + nr := by omega
                            have HKeep : Hid (∀ (v : Nat → Value) (V : World), Mb ((mkK MB RB (S + 1 + 1 + 1) SU WA D (S + 1 + 1 + 1 + 1) S SB Q nr x t (cidL n0) (cidL n1) rel hand wat w).cs sus) D (S + 1 + 1 + 1 + 1) [] v V → At V PB (idV (cidL bv)).toArray 37 → (V.cell? ⟨MB, 21, none⟩ = some (.slice (some ⟨RB, 0, none⟩) nr nr) ∧ V.rangeAt (S + 1 + 1 + 1) 0 [.int .i64 (x : Int), .int .i64 (x : Int), .int .i64 (t : Int)] ∧ V.rangeAt PB 0 (idV (cidL bv)))) := fun _ V m a => by
                              obtain ⟨C, aM, _, _, m3, _⟩ := m.mb
                              exact ⟨(aM.cell _).trans m3, At.lall (l := [.int .i64 (x : Int), .int .i64 (x : Int), .int .i64 (t : Int)]) m.lay, a.all⟩
                            clear HPB
                            refine wp_region_held_drew (S := fun V => V.cell? ⟨MB, 21, none⟩ = some (.slice (some ⟨RB, 0, none⟩) nr nr) ∧ V.rangeAt (S + 1 + 1 + 1) 0 [.int .i64 (x : Int), .int .i64 (x : Int), .int .i64 (t : Int)] ∧ V.rangeAt PB 0 (idV (cidL bv))) (by kernel_rfl) (HKeep.out _ _ J1.mb aP) (fun hHeld => ?_)
                            refine wpAnyH_take (i := 0) (v := ?_) rfl (by kernel_rfl) (by kernel_rfl) (by kernel_rfl) (fun _ _ _ h => h) (Or.inl ⟨by rfl, ?_⟩) (by assumption) ?_
                            rotate_left
                            · intro w hSw; go_simp; try with_reducible rfl
                            refine wpAnyH_take (i := 1) (v := ?_) rfl (by kernel_rfl) (by kernel_rfl) (by kernel_rfl) (fun _ _ _ h => h) (Or.inl ⟨by rfl, ?_⟩) (by assumption) ?_
                            rotate_left
                            · intro w hSw; go_simp; try with_reducible rfl
                            simp only [Act.put, List.getElem_toArray, List.getElem_cons_succ, List.getElem_cons_zero, List.setIfInBounds_toArray, List.set_cons_zero, List.set_cons_succ]
                            refine wpAnyH_take (i := 14) (v := _) rfl (by kernel_rfl) (by kernel_rfl) (by kernel_rfl) (fun _ _ _ h => h) (yieldsIf_load_mid (by rfl) 51 _ rfl (S + 1 + 1 + 1) 0 rfl [Value.int .i64 (x : Int), .int .i64 (x : Int), .int .i64 (t : Int)] _ (fun W h => h.2.1) hu51 rfl hi51) (by assumption) ?_
                            refine wpAnyH_take (i := 16) (v := _) rfl (by kernel_rfl) (by kernel_rfl) (by kernel_rfl) (fun _ _ _ h => h) (yieldsIf_load_mid (by rfl) 37 _ rfl PB 0 rfl (idV (cidL bv)) _ (fun W h => h.2.2) hu37 rfl hil37) (by assumption) ?_
                            refine wpAnyH_take (i := 2) (v := ?_) rfl (by kernel_rfl) (by kernel_rfl) (by kernel_rfl) (fun _ _ _ h => h) (Or.inl ⟨by rfl, ?_⟩) (by assumption) ?_
                            rotate_left
                            · intro w hSw; go_simp; try with_reducible rfl
                            refine wpAnyH_take (i := 3) (v := ?_) rfl (by kernel_rfl) (by kernel_rfl) (by kernel_rfl) (fun _ _ _ h => h) (Or.inl ⟨by rfl, ?_⟩) (by assumption) ?_
                            rotate_left
                            · intro w hSw; have q3 := hSw.1; go_simp; try with_reducible rfl
                            refine wpAnyH_take (i := 4) (v := ?_) rfl (by kernel_rfl) (by kernel_rfl) (by kernel_rfl) (fun _ _ _ h => h) (Or.inl ⟨by rfl, ?_⟩) (by assumption) ?_
                            rotate_left
                            · intro w hSw; go_simp; try with_reducible rfl
                            refine wpAnyH_take (i := 5) (v := ?_) rfl (by kernel_rfl) (by kernel_rfl) (by kernel_rfl) (fun _ _ _ h => h) (Or.inl ⟨by rfl, ?_⟩) (by assumption) ?_
                            rotate_left
                            · intro w hSw; go_simp; try with_reducible rfl
                            refine wpAnyH_take (i := 6) (v := ?_) rfl (by kernel_rfl) (by kernel_rfl) (by kernel_rfl) (fun _ _ _ h => h) (Or.inl ⟨by rfl, ?_⟩) (by assumption) ?_
                            rotate_left
                            · intro w hSw; go_simp; try with_reducible rfl
                            refine wpAnyH_take (i := 7) (v := ?_) rfl (by kernel_rfl) (by kernel_rfl) (by kernel_rfl) (fun _ _ _ h => h) (Or.inl ⟨by rfl, ?_⟩) (by assumption) ?_
                            rotate_left
                            · intro w hSw; go_simp; try with_reducible rfl
                            refine wpAnyH_take (i := 8) (v := ?_) rfl (by kernel_rfl) (by kernel_rfl) (by kernel_rfl) (fun _ _ _ h => h) (Or.inl ⟨by rfl, ?_⟩) (by assumption) ?_
                            rotate_left
                            · intro w hSw; have q3 := hSw.1; go_simp; try with_reducible rfl
                            refine wpAnyH_take (i := 9) (v := ?_) rfl (by kernel_rfl) (by kernel_rfl) (by kernel_rfl) (fun _ _ _ h => h) (Or.inl ⟨by rfl, ?_⟩) (by assumption) ?_
                            rotate_left
                            · intro w hSw; go_simp; try with_reducible rfl
                            refine wpAnyH_take (i := 15) (v := ?_) rfl (by kernel_rfl) (by kernel_rfl) (by kernel_rfl) (fun _ _ _ h => h) (Or.inl ⟨by rfl, ?_⟩) (by assumption) ?_
                            rotate_left
                            · intro w hSw; go_simp; try with_reducible rfl
                            refine wpAnyH_take (i := 10) (v := ?_) rfl (by kernel_rfl) (by kernel_rfl) (by kernel_rfl) (fun _ _ _ h => h) (Or.inl ⟨by rfl, ?_⟩) (by assumption) ?_
                            rotate_left
                            · intro w hSw; go_simp; try with_reducible rfl
                            refine wpAnyH_take (i := 11) (v := ?_) rfl (by kernel_rfl) (by kernel_rfl) (by kernel_rfl) (fun _ _ _ h => h) (Or.inl ⟨by rfl, ?_⟩) (by assumption) ?_
                            rotate_left
                            · intro w hSw; go_simp; try with_reducible rfl
                            refine wpAnyH_take (i := 12) (v := ?_) rfl (by kernel_rfl) (by kernel_rfl) (by kernel_rfl) (fun _ _ _ h => h) (Or.inl ⟨by rfl, ?_⟩) (by assumption) ?_
                            rotate_left
                            · intro w hSw; go_simp; try with_reducible rfl
                            simp only [Act.put, List.getElem_toArray, List.getElem_cons_succ, List.getElem_cons_zero, List.setIfInBounds_toArray, List.set_cons_zero, List.set_cons_succ]
                            generalize wr.drew = V0 at *
                            refine wpAnyH_ready (rs := [13, 17]) (by kernel_rfl) (by simp) ?_
                            refine (AllReadyH.cons rfl (fun K hK => ?_) (AllReadyH.cons rfl (fun K hK => ?_) AllReadyH.nil))
                            · have q4 : V0.cell? ⟨RB, r * 47 + 21, none⟩ = some (v (2 + r)) := by rw [← ho]; exact J1.cell (2 + r) hrow
                              go_simp
                              refine hK.out _ _ hHeld (fun hHeld2 => ?_)
                              clear q4
                              clear hHeld hK K
                              have hHeld := hHeld2
                              clear hHeld2
                              refine wpAnyH_ready (rs := [17]) (by kernel_rfl) (by simp) ?_
                              refine (AllReadyH.cons rfl (fun K hK => ?_) AllReadyH.nil)
                              go_simp
                              go_at_call 22
                              refine (H22.out _).mono ?_
                              rintro e V2 ⟨rfl, hg⟩
                              replace J1 := J1.gr OK.out hg
                              replace aP := aP.gr hg
                              refine hK.out _ _ (HKeep.out _ _ J1.mb aP) (fun hHeld2 => ?_)
                              clear hg
                              clear hHeld hK K
                              have hHeld := hHeld2
                              clear hHeld2
                              refine wpAnyH_ready (rs := [18]) (by kernel_rfl) (by simp) ?_
                              refine (AllReadyH.cons rfl (fun K hK => ?_) AllReadyH.nil)
                              rw [if_pos (by rfl)]
                              refine wp_build_run 110 _ rfl [(0, .agg (idV (viewL x r (cidL bv))).toArray)] (by first | (simp [Act.eval]; done) | simp [Act.eval, Act.put]) _ HBu.out ?_
                              refine hK.out _ _ hHeld (fun hHeld2 => ?_)
                              clear hHeld hK K
                              have hHeld := hHeld2
                              clear hHeld2
                              refine wpAnyH_ready (rs := [19]) (by kernel_rfl) (by simp) ?_
                              refine (AllReadyH.cons rfl (fun K hK => ?_) AllReadyH.nil)
                              rw [if_pos (by rfl)]
                              refine wp_buildSlice 70 110 1 _ rfl (peerV (viewL x r (cidL bv))).toArray i0 (.agg zeroP) Yba.underlying70 hi0 HZ0.out (by rw [hz1]; decide) (by rw [hz1]; decide) (Eq.trans (congrArg _ (by first | (simp [Act.eval]; done) | simp [Act.eval, Act.put])) HFl.out) ?_
                              obtain ⟨X, hX⟩ : ∃ q, q = V2.heap.size := ⟨_, rfl⟩
                              have N8 : At (V2.alloc (.cells (peerV (viewL x r (cidL bv))).toArray 110)) X (peerV (viewL x r (cidL bv))).toArray 110 := by rw [hX]; exact At.new _ _ _
                              replace J1 := J1.gr OK.out ((Gr.refl V2).alloc (.cells (peerV (viewL x r (cidL bv))).toArray 110))
                              replace aP := aP.gr ((Gr.refl V2).alloc (.cells (peerV (viewL x r (cidL bv))).toArray 110))
                              rw [← hX]
                              refine hK.out _ _ (HKeep.out _ _ J1.mb aP) (fun hHeld2 => ?_)
                              generalize V2.alloc (.cells (peerV (viewL x r (cidL bv))).toArray 110) = V4 at *
                              clear hX
                              clear hHeld hK K
                              have hHeld := hHeld2
                              clear hHeld2
                              refine wpAnyH_ready (rs := [20]) (by kernel_rfl) (by simp) ?_
                              refine AllReadyH.cons rfl (fun K hK => ?_) AllReadyH.nil
                              rw [if_pos (by rfl)]
                              refine wp_append_lies _ _ _ 70 rfl S 110 i0 _ 24 56 Yba.underlying70 hi0 HZ0.out hz1 hz2 size_zeroP (by omega) (v (2 + r)) (ids (2 + r)).length ((ids (2 + r)).flatMap peerV) (by rfl) (J1.rows.row (2 + r)).own ⟨X, 0, none⟩ 1 1 (peerV (viewL x r (cidL bv))) (by rfl) (by rw [length_peerV _ hvl]) (fun j u hj => by rw [Addr.add_mid, N8.cell, Nat.zero_add]; simpa using hj) (peerV_one (viewL x r (cidL bv))) (by omega) (by have := J1.len (2 + r); unfold maxLen; omega) (by have := J1.len (2 + r); omega) (J1.size OK.out) _ rfl ?_
                              intro g cap V9 hown hgrow hat hlt
                              have hfin := J1.app OK.out (2 + r) hrow (viewL x r (cidL bv)) hvl hown hgrow hat
                              rw [ho] at hfin
                              have aP9 : At V9 PB (idV (cidL bv)).toArray 37 := aP.of_heap (hgrow.block PB aP.lt (fun e => J1.own aP (by decide) (2 + r) PB e.symm rfl))
                              have hRP : PB ≠ RB := by obtain ⟨C, a, _⟩ := J1.mb.rb; exact aP.ne a (by decide)
                              have aP10 := aP9.setOther ⟨RB, r * 47 + 21, none⟩ (.slice (some ⟨g, 0, none⟩) ((ids (2 + r)).length + 1) cap) hRP
                              have hH9 := HKeep.out _ _ hfin.2.2.1 aP9
                              have hH10 := HKeep.out _ _ hfin.2.2.2.mb aP10
                              refine hK.out _ _ hH9 (fun _ => ?_)
                              clear hK K hown hgrow hat hlt hHeld aP J1 N8
                              refine wpAnyH_ready (rs := [21]) (by kernel_rfl) (by simp) ?_
                              refine AllReadyH.cons rfl (fun K hK => ?_) AllReadyH.nil
                              go_simp
                              refine hK.out _ _ hH9 (fun _ => ?_)
                              clear hK K
                              refine wpAnyH_ready (rs := [22]) (by kernel_rfl) (by simp) ?_
                              refine AllReadyH.cons rfl (fun K hK => ?_) AllReadyH.nil
                              go_simp
                              refine hK.out _ _ hH9 (fun _ => ?_)
                              clear hK K
                              refine wpAnyH_ready (rs := [23]) (by kernel_rfl) (by simp) ?_
                              refine AllReadyH.cons rfl (fun K hK => ?_) AllReadyH.nil
                              go_simp
                              refine hK.out _ _ hH9 (fun _ => ?_)
                              clear hK K
                              refine wpAnyH_ready (rs := [24]) (by kernel_rfl) (by simp) ?_
                              refine AllReadyH.cons rfl (fun K hK => ?_) AllReadyH.nil
                              have q11 : V9.cell? ⟨RB, r * 47 + 21, none⟩ = some (v (2 + r)) := hfin.1
                              have f11 : V9.frozen? ⟨RB, r * 47 + 21, none⟩ = false := hfin.2.1
                              go_simp
                              refine hK.out _ _ hH10 (fun _ => ?_)
                              clear hK K q11 f11 hH9 hH10
                              have JN : Hid (LW (mkK MB RB (S + 1 + 1 + 1) SU WA D (S + 1 + 1 + 1 + 1) S SB Q nr x t (cidL n0) (cidL n1) rel hand wat w) (1 + 4 * i + 2 + (r + 1)) (upd v (2 + r) (.slice (some ⟨g, 0, none⟩) ((ids (2 + r)).length + 1) cap)) (upd ids (2 + r) (ids (2 + r) ++ [(viewL x r (cidL bv))])) sus (V9.setCell ⟨RB, r * 47 + 21, none⟩ (.slice (some ⟨g, 0, none⟩) ((ids (2 + r)).length + 1) cap)) ∧ At (V9.setCell ⟨RB, r * 47 + 21, none⟩ (.slice (some ⟨g, 0, none⟩) ((ids (2 + r)).length + 1) cap)) PB (idV (cidL bv)).toArray 37) := ⟨hfin.2.2.2, aP10⟩
                              clear hfin aP9 aP10 hRP
                              refine wpAnyH_done (by kernel_rfl) ?_ _
                              go_wp2
                              go_roundg (nr - (r + 1))
                              case measure => omega
                              case rel => exact ⟨r + 1, by go_num, by omega, Nat.le_refl _, _, _, JN⟩
                            · go_simp
                              go_at_call 22
                              refine (H22.out _).mono ?_
                              rintro e V5 ⟨rfl, hg⟩
                              replace J1 := J1.gr OK.out hg
                              replace aP := aP.gr hg
                              refine hK.out _ _ (HKeep.out _ _ J1.mb aP) (fun hHeld2 => ?_)
                              clear hg
                              clear hHeld hK K
                              have hHeld := hHeld2
                              clear hHeld2
                              refine wpAnyH_ready (rs := [13, 18]) (by kernel_rfl) (by simp) ?_
                              refine (AllReadyH.cons rfl (fun K hK => ?_) (AllReadyH.cons rfl (fun K hK => ?_) AllReadyH.nil))
                              · have q4 : V5.cell? ⟨RB, r * 47 + 21, none⟩ = some (v (2 + r)) := by rw [← ho]; exact J1.cell (2 + r) hrow
                                go_simp
                                refine hK.out _ _ hHeld (fun hHeld2 => ?_)
                                clear q4
                                clear hHeld hK K
                                have hHeld := hHeld2
                                clear hHeld2
                                refine wpAnyH_ready (rs := [18]) (by kernel_rfl) (by simp) ?_
                                refine (AllReadyH.cons rfl (fun K hK => ?_) AllReadyH.nil)
                                rw [if_pos (by rfl)]
                                refine wp_build_run 110 _ rfl [(0, .agg (idV (viewL x r (cidL bv))).toArray)] (by first | (simp [Act.eval]; done) | simp [Act.eval, Act.put]) _ HBu.out ?_
                                refine hK.out _ _ hHeld (fun hHeld2 => ?_)
                                clear hHeld hK K
                                have hHeld := hHeld2
                                clear hHeld2
                                refine wpAnyH_ready (rs := [19]) (by kernel_rfl) (by simp) ?_
                                refine (AllReadyH.cons rfl (fun K hK => ?_) AllReadyH.nil)
                                rw [if_pos (by rfl)]
                                refine wp_buildSlice 70 110 1 _ rfl (peerV (viewL x r (cidL bv))).toArray i0 (.agg zeroP) Yba.underlying70 hi0 HZ0.out (by rw [hz1]; decide) (by rw [hz1]; decide) (Eq.trans (congrArg _ (by first | (simp [Act.eval]; done) | simp [Act.eval, Act.put])) HFl.out) ?_
                                obtain ⟨X, hX⟩ : ∃ q, q = V5.heap.size := ⟨_, rfl⟩
                                have N8 : At (V5.alloc (.cells (peerV (viewL x r (cidL bv))).toArray 110)) X (peerV (viewL x r (cidL bv))).toArray 110 := by rw [hX]; exact At.new _ _ _
                                replace J1 := J1.gr OK.out ((Gr.refl V5).alloc (.cells (peerV (viewL x r (cidL bv))).toArray 110))
                                replace aP := aP.gr ((Gr.refl V5).alloc (.cells (peerV (viewL x r (cidL bv))).toArray 110))
                                rw [← hX]
                                refine hK.out _ _ (HKeep.out _ _ J1.mb aP) (fun hHeld2 => ?_)
                                generalize V5.alloc (.cells (peerV (viewL x r (cidL bv))).toArray 110) = V8 at *
                                clear hX
                                clear hHeld hK K
                                have hHeld := hHeld2
                                clear hHeld2
                                refine wpAnyH_ready (rs := [20]) (by kernel_rfl) (by simp) ?_
                                refine AllReadyH.cons rfl (fun K hK => ?_) AllReadyH.nil
                                rw [if_pos (by rfl)]
                                refine wp_append_lies _ _ _ 70 rfl S 110 i0 _ 24 56 Yba.underlying70 hi0 HZ0.out hz1 hz2 size_zeroP (by omega) (v (2 + r)) (ids (2 + r)).length ((ids (2 + r)).flatMap peerV) (by rfl) (J1.rows.row (2 + r)).own ⟨X, 0, none⟩ 1 1 (peerV (viewL x r (cidL bv))) (by rfl) (by rw [length_peerV _ hvl]) (fun j u hj => by rw [Addr.add_mid, N8.cell, Nat.zero_add]; simpa using hj) (peerV_one (viewL x r (cidL bv))) (by omega) (by have := J1.len (2 + r); unfold maxLen; omega) (by have := J1.len (2 + r); omega) (J1.size OK.out) _ rfl ?_
                                intro g cap V9 hown hgrow hat hlt
                                have hfin := J1.app OK.out (2 + r) hrow (viewL x r (cidL bv)) hvl hown hgrow hat
                                rw [ho] at hfin
                                have aP9 : At V9 PB (idV (cidL bv)).toArray 37 := aP.of_heap (hgrow.block PB aP.lt (fun e => J1.own aP (by decide) (2 + r) PB e.symm rfl))
                                have hRP : PB ≠ RB := by obtain ⟨C, a, _⟩ := J1.mb.rb; exact aP.ne a (by decide)
                                have aP10 := aP9.setOther ⟨RB, r * 47 + 21, none⟩ (.slice (some ⟨g, 0, none⟩) ((ids (2 + r)).length + 1) cap) hRP
                                have hH9 := HKeep.out _ _ hfin.2.2.1 aP9
                                have hH10 := HKeep.out _ _ hfin.2.2.2.mb aP10
                                refine hK.out _ _ hH9 (fun _ => ?_)
                                clear hK K hown hgrow hat hlt hHeld aP J1 N8
                                refine wpAnyH_ready (rs := [21]) (by kernel_rfl) (by simp) ?_
                                refine AllReadyH.cons rfl (fun K hK => ?_) AllReadyH.nil
                                go_simp
                                refine hK.out _ _ hH9 (fun _ => ?_)
                                clear hK K
                                refine wpAnyH_ready (rs := [22]) (by kernel_rfl) (by simp) ?_
                                refine AllReadyH.cons rfl (fun K hK => ?_) AllReadyH.nil
                                go_simp
                                refine hK.out _ _ hH9 (fun _ => ?_)
                                clear hK K
                                refine wpAnyH_ready (rs := [23]) (by kernel_rfl) (by simp) ?_
                                refine AllReadyH.cons rfl (fun K hK => ?_) AllReadyH.nil
                                go_simp
                                refine hK.out _ _ hH9 (fun _ => ?_)
                                clear hK K
                                refine wpAnyH_ready (rs := [24]) (by kernel_rfl) (by simp) ?_
                                refine AllReadyH.cons rfl (fun K hK => ?_) AllReadyH.nil
                                have q11 : V9.cell? ⟨RB, r * 47 + 21, none⟩ = some (v (2 + r)) := hfin.1
                                have f11 : V9.frozen? ⟨RB, r * 47 + 21, none⟩ = false := hfin.2.1
                                go_simp
                                refine hK.out _ _ hH10 (fun _ => ?_)
                                clear hK K q11 f11 hH9 hH10
                                have JN : Hid (LW (mkK MB RB (S + 1 + 1 + 1) SU WA D (S + 1 + 1 + 1 + 1) S SB Q nr x t (cidL n0) (cidL n1) rel hand wat w) (1 + 4 * i + 2 + (r + 1)) (upd v (2 + r) (.slice (some ⟨g, 0, none⟩) ((ids (2 + r)).length + 1) cap)) (upd ids (2 + r) (ids (2 + r) ++ [(viewL x r (cidL bv))])) sus (V9.setCell ⟨RB, r * 47 + 21, none⟩ (.slice (some ⟨g, 0, none⟩) ((ids (2 + r)).length + 1) cap)) ∧ At (V9.setCell ⟨RB, r * 47 + 21, none⟩ (.slice (some ⟨g, 0, none⟩) ((ids (2 + r)).length + 1) cap)) PB (idV (cidL bv)).toArray 37) := ⟨hfin.2.2.2, aP10⟩
                                clear hfin aP9 aP10 hRP
                                refine wpAnyH_done (by kernel_rfl) ?_ _
                                go_wp2
                                go_roundg (nr - (r + 1))
                                case measure => omega
                                case rel => exact ⟨r + 1, by go_num, by omega, Nat.le_refl _, _, _, JN⟩
                              · rw [if_pos (by rfl)]
                                refine wp_build_run 110 _ rfl [(0, .agg (idV (viewL x r (cidL bv))).toArray)] (by first | (simp [Act.eval]; done) | simp [Act.eval, Act.put]) _ HBu.out ?_
                                refine hK.out _ _ hHeld (fun hHeld2 => ?_)
                                clear hHeld hK K
                                have hHeld := hHeld2
                                clear hHeld2
                                refine wpAnyH_ready (rs := [13, 19]) (by kernel_rfl) (by simp) ?_
                                refine (AllReadyH.cons rfl (fun K hK => ?_) (AllReadyH.cons rfl (fun K hK => ?_) AllReadyH.nil))
                                · have q4 : V5.cell? ⟨RB, r * 47 + 21, none⟩ = some (v (2 + r)) := by rw [← ho]; exact J1.cell (2 + r) hrow
                                  go_simp
                                  refine hK.out _ _ hHeld (fun hHeld2 => ?_)
                                  clear q4
                                  clear hHeld hK K
                                  have hHeld := hHeld2
                                  clear hHeld2
                                  refine wpAnyH_ready (rs := [19]) (by kernel_rfl) (by simp) ?_
                                  refine (AllReadyH.cons rfl (fun K hK => ?_) AllReadyH.nil)
                                  rw [if_pos (by rfl)]
                                  refine wp_buildSlice 70 110 1 _ rfl (peerV (viewL x r (cidL bv))).toArray i0 (.agg zeroP) Yba.underlying70 hi0 HZ0.out (by rw [hz1]; decide) (by rw [hz1]; decide) (Eq.trans (congrArg _ (by first | (simp [Act.eval]; done) | simp [Act.eval, Act.put])) HFl.out) ?_
                                  obtain ⟨X, hX⟩ : ∃ q, q = V5.heap.size := ⟨_, rfl⟩
                                  have N8 : At (V5.alloc (.cells (peerV (viewL x r (cidL bv))).toArray 110)) X (peerV (viewL x r (cidL bv))).toArray 110 := by rw [hX]; exact At.new _ _ _
                                  replace J1 := J1.gr OK.out ((Gr.refl V5).alloc (.cells (peerV (viewL x r (cidL bv))).toArray 110))
                                  replace aP := aP.gr ((Gr.refl V5).alloc (.cells (peerV (viewL x r (cidL bv))).toArray 110))
                                  rw [← hX]
                                  refine hK.out _ _ (HKeep.out _ _ J1.mb aP) (fun hHeld2 => ?_)
                                  generalize V5.alloc (.cells (peerV (viewL x r (cidL bv))).toArray 110) = V11 at *
                                  clear hX
                                  clear hHeld hK K
                                  have hHeld := hHeld2
                                  clear hHeld2
                                  refine wpAnyH_ready (rs := [20]) (by kernel_rfl) (by simp) ?_
                                  refine AllReadyH.cons rfl (fun K hK => ?_) AllReadyH.nil
                                  rw [if_pos (by rfl)]
                                  refine wp_append_lies _ _ _ 70 rfl S 110 i0 _ 24 56 Yba.underlying70 hi0 HZ0.out hz1 hz2 size_zeroP (by omega) (v (2 + r)) (ids (2 + r)).length ((ids (2 + r)).flatMap peerV) (by rfl) (J1.rows.row (2 + r)).own ⟨X, 0, none⟩ 1 1 (peerV (viewL x r (cidL bv))) (by rfl) (by rw [length_peerV _ hvl]) (fun j u hj => by rw [Addr.add_mid, N8.cell, Nat.zero_add]; simpa using hj) (peerV_one (viewL x r (cidL bv))) (by omega) (by have := J1.len (2 + r); unfold maxLen; omega) (by have := J1.len (2 + r); omega) (J1.size OK.out) _ rfl ?_
                                  intro g cap V9 hown hgrow hat hlt
                                  have hfin := J1.app OK.out (2 + r) hrow (viewL x r (cidL bv)) hvl hown hgrow hat
                                  rw [ho] at hfin
                                  have aP9 : At V9 PB (idV (cidL bv)).toArray 37 := aP.of_heap (hgrow.block PB aP.lt (fun e => J1.own aP (by decide) (2 + r) PB e.symm rfl))
                                  have hRP : PB ≠ RB := by obtain ⟨C, a, _⟩ := J1.mb.rb; exact aP.ne a (by decide)
                                  have aP10 := aP9.setOther ⟨RB, r * 47 + 21, none⟩ (.slice (some ⟨g, 0, none⟩) ((ids (2 + r)).length + 1) cap) hRP
                                  have hH9 := HKeep.out _ _ hfin.2.2.1 aP9
                                  have hH10 := HKeep.out _ _ hfin.2.2.2.mb aP10
                                  refine hK.out _ _ hH9 (fun _ => ?_)
                                  clear hK K hown hgrow hat hlt hHeld aP J1 N8
                                  refine wpAnyH_ready (rs := [21]) (by kernel_rfl) (by simp) ?_
                                  refine AllReadyH.cons rfl (fun K hK => ?_) AllReadyH.nil
                                  go_simp
                                  refine hK.out _ _ hH9 (fun _ => ?_)
                                  clear hK K
                                  refine wpAnyH_ready (rs := [22]) (by kernel_rfl) (by simp) ?_
                                  refine AllReadyH.cons rfl (fun K hK => ?_) AllReadyH.nil
                                  go_simp
                                  refine hK.out _ _ hH9 (fun _ => ?_)
                                  clear hK K
                                  refine wpAnyH_ready (rs := [23]) (by kernel_rfl) (by simp) ?_
                                  refine AllReadyH.cons rfl (fun K hK => ?_) AllReadyH.nil
                                  go_simp
                                  refine hK.out _ _ hH9 (fun _ => ?_)
                                  clear hK K
                                  refine wpAnyH_ready (rs := [24]) (by kernel_rfl) (by simp) ?_
                                  refine AllReadyH.cons rfl (fun K hK => ?_) AllReadyH.nil
                                  have q11 : V9.cell? ⟨RB, r * 47 + 21, none⟩ = some (v (2 + r)) := hfin.1
                                  have f11 : V9.frozen? ⟨RB, r * 47 + 21, none⟩ = false := hfin.2.1
                                  go_simp
                                  refine hK.out _ _ hH10 (fun _ => ?_)
                                  clear hK K q11 f11 hH9 hH10
                                  have JN : Hid (LW (mkK MB RB (S + 1 + 1 + 1) SU WA D (S + 1 + 1 + 1 + 1) S SB Q nr x t (cidL n0) (cidL n1) rel hand wat w) (1 + 4 * i + 2 + (r + 1)) (upd v (2 + r) (.slice (some ⟨g, 0, none⟩) ((ids (2 + r)).length + 1) cap)) (upd ids (2 + r) (ids (2 + r) ++ [(viewL x r (cidL bv))])) sus (V9.setCell ⟨RB, r * 47 + 21, none⟩ (.slice (some ⟨g, 0, none⟩) ((ids (2 + r)).length + 1) cap)) ∧ At (V9.setCell ⟨RB, r * 47 + 21, none⟩ (.slice (some ⟨g, 0, none⟩) ((ids (2 + r)).length + 1) cap)) PB (idV (cidL bv)).toArray 37) := ⟨hfin.2.2.2, aP10⟩
                                  clear hfin aP9 aP10 hRP
                                  refine wpAnyH_done (by kernel_rfl) ?_ _
                                  go_wp2
                                  go_roundg (nr - (r + 1))
                                  case measure => omega
                                  case rel => exact ⟨r + 1, by go_num, by omega, Nat.le_refl _, _, _, JN⟩
                                · rw [if_pos (by rfl)]
                                  refine wp_buildSlice 70 110 1 _ rfl (peerV (viewL x r (cidL bv))).toArray i0 (.agg zeroP) Yba.underlying70 hi0 HZ0.out (by rw [hz1]; decide) (by rw [hz1]; decide) (Eq.trans (congrArg _ (by first | (simp [Act.eval]; done) | simp [Act.eval, Act.put])) HFl.out) ?_
                                  obtain ⟨X, hX⟩ : ∃ q, q = V5.heap.size := ⟨_, rfl⟩
                                  have N8 : At (V5.alloc (.cells (peerV (viewL x r (cidL bv))).toArray 110)) X (peerV (viewL x r (cidL bv))).toArray 110 := by rw [hX]; exact At.new _ _ _
                                  replace J1 := J1.gr OK.out ((Gr.refl V5).alloc (.cells (peerV (viewL x r (cidL bv))).toArray 110))
                                  replace aP := aP.gr ((Gr.refl V5).alloc (.cells (peerV (viewL x r (cidL bv))).toArray 110))
                                  rw [← hX]
                                  refine hK.out _ _ (HKeep.out _ _ J1.mb aP) (fun hHeld2 => ?_)
                                  generalize V5.alloc (.cells (peerV (viewL x r (cidL bv))).toArray 110) = V12 at *
                                  clear hX
                                  clear hHeld hK K
                                  have hHeld := hHeld2
                                  clear hHeld2
                                  refine wpAnyH_ready (rs := [13]) (by kernel_rfl) (by simp) ?_
                                  refine (AllReadyH.cons rfl (fun K hK => ?_) AllReadyH.nil)
                                  have q4 : V12.cell? ⟨RB, r * 47 + 21, none⟩ = some (v (2 + r)) := by rw [← ho]; exact J1.cell (2 + r) hrow
                                  go_simp
                                  refine hK.out _ _ hHeld (fun hHeld2 => ?_)
                                  clear q4
                                  clear hHeld hK K
                                  have hHeld := hHeld2
                                  clear hHeld2
                                  refine wpAnyH_ready (rs := [20]) (by kernel_rfl) (by simp) ?_
                                  refine AllReadyH.cons rfl (fun K hK => ?_) AllReadyH.nil
                                  rw [if_pos (by rfl)]
                                  refine wp_append_lies _ _ _ 70 rfl S 110 i0 _ 24 56 Yba.underlying70 hi0 HZ0.out hz1 hz2 size_zeroP (by omega) (v (2 + r)) (ids (2 + r)).length ((ids (2 + r)).flatMap peerV) (by rfl) (J1.rows.row (2 + r)).own ⟨X, 0, none⟩ 1 1 (peerV (viewL x r (cidL bv))) (by rfl) (by rw [length_peerV _ hvl]) (fun j u hj => by rw [Addr.add_mid, N8.cell, Nat.zero_add]; simpa using hj) (peerV_one (viewL x r (cidL bv))) (by omega) (by have := J1.len (2 + r); unfold maxLen; omega) (by have := J1.len (2 + r); omega) (J1.size OK.out) _ rfl ?_
                                  intro g cap V9 hown hgrow hat hlt
                                  have hfin := J1.app OK.out (2 + r) hrow (viewL x r (cidL bv)) hvl hown hgrow hat
                                  rw [ho] at hfin
                                  have aP9 : At V9 PB (idV (cidL bv)).toArray 37 := aP.of_heap (hgrow.block PB aP.lt (fun e => J1.own aP (by decide) (2 + r) PB e.symm rfl))
                                  have hRP : PB ≠ RB := by obtain ⟨C, a, _⟩ := J1.mb.rb; exact aP.ne a (by decide)
                                  have aP10 := aP9.setOther ⟨RB, r * 47 + 21, none⟩ (.slice (some ⟨g, 0, none⟩) ((ids (2 + r)).length + 1) cap) hRP
                                  have hH9 := HKeep.out _ _ hfin.2.2.1 aP9
                                  have hH10 := HKeep.out _ _ hfin.2.2.2.mb aP10
                                  refine hK.out _ _ hH9 (fun _ => ?_)
                                  clear hK K hown hgrow hat hlt hHeld aP J1 N8
                                  refine wpAnyH_ready (rs := [21]) (by kernel_rfl) (by simp) ?_
                                  refine AllReadyH.cons rfl (fun K hK => ?_) AllReadyH.nil
                                  go_simp
                                  refine hK.out _ _ hH9 (fun _ => ?_)
                                  clear hK K
                                  refine wpAnyH_ready (rs := [22]) (by kernel_rfl) (by simp) ?_
                                  refine AllReadyH.cons rfl (fun K hK => ?_) AllReadyH.nil
                                  go_simp
                                  refine hK.out _ _ hH9 (fun _ => ?_)
                                  clear hK K
                                  refine wpAnyH_ready (rs := [23]) (by kernel_rfl) (by simp) ?_
                                  refine AllReadyH.cons rfl (fun K hK => ?_) AllReadyH.nil
                                  go_simp
                                  refine hK.out _ _ hH9 (fun _ => ?_)
                                  clear hK K
                                  refine wpAnyH_ready (rs := [24]) (by kernel_rfl) (by simp) ?_
                                  refine AllReadyH.cons rfl (fun K hK => ?_) AllReadyH.nil
                                  have q11 : V9.cell? ⟨RB, r * 47 + 21, none⟩ = some (v (2 + r)) := hfin.1
                                  have f11 : V9.frozen? ⟨RB, r * 47 + 21, none⟩ = false := hfin.2.1
                                  go_simp
                                  refine hK.out _ _ hH10 (fun _ => ?_)
                                  clear hK K q11 f11 hH9 hH10
                                  have JN : Hid (LW (mkK MB RB (S + 1 + 1 + 1) SU WA D (S + 1 + 1 + 1 + 1) S SB Q nr x t (cidL n0) (cidL n1) rel hand wat w) (1 + 4 * i + 2 + (r + 1)) (upd v (2 + r) (.slice (some ⟨g, 0, none⟩) ((ids (2 + r)).length + 1) cap)) (upd ids (2 + r) (ids (2 + r) ++ [(viewL x r (cidL bv))])) sus (V9.setCell ⟨RB, r * 47 + 21, none⟩ (.slice (some ⟨g, 0, none⟩) ((ids (2 + r)).length + 1) cap)) ∧ At (V9.setCell ⟨RB, r * 47 + 21, none⟩ (.slice (some ⟨g, 0, none⟩) ((ids (2 + r)).length + 1) cap)) PB (idV (cidL bv)).toArray 37) := ⟨hfin.2.2.2, aP10⟩
                                  clear hfin aP9 aP10 hRP
                                  refine wpAnyH_done (by kernel_rfl) ?_ _
                                  go_wp2
                                  go_roundg (nr - (r + 1))
                                  case measure => omega
                                  case rel => exact ⟨r + 1, by go_num, by omega, Nat.le_refl _, _, _, JN⟩
                          · obtain rfl : r = nr := by omega
                            have hrz : ¬ ((r : Int) < (r : Int)) := by omega
                            go_wp2
                            go_meet
                            exact ⟨rfl, v, ids, HPB.out.1.mono (by omega), HPB.out.2⟩
                    case rest =>
                      obtain ⟨rfl, v, ids, HPB⟩ := hcut
                      go_upto_if 169 with fail
                      obtain ⟨q2, hq2⟩ : ∃ q2, q2 = bits BinOp.and IntKind.u8 (fl : Int) 2 := ⟨_, rfl⟩
                      rw [← hq2]
                      clear hq2
                      by_cases hq0 : q2 = 0
                      · have hq0d : (q2 != 0) = false := by simp [hq0]
                        have JN : Aside (LW (mkK MB RB (S + 1 + 1 + 1) SU WA D (S + 1 + 1 + 1 + 1) S SB Q nr x t (cidL n0) (cidL n1) rel hand wat w) (1 + 4 * (i + 1)) v ids sus wc) := HPB.out.1.mono (by omega)
                        clear HPB
                        go_wp2
                        go_roundg (lx - (i + 1))
                        case measure => omega
                        case rel => exact ⟨i + 1, by go_num, by omega, Nat.le_refl _, _, _, _, JN⟩
                      · have hq0d : (q2 != 0) = true := by simp [hq0]
                        go_upto_region 32 with fail
                        have J1 := HPB.out.1.gr OK.out ((Gr.refl wc).drew)
                        have aP := HPB.out.2.gr ((Gr.refl wc).drew)
                        have hu37 := Yba.underlying37
                        have hil37 : (Yba.prog.info? 37).map (·.size) = some (idV (cidL bv)).length := by rw [length_idV, length_cidL]; kernel_rfl
                        obtain ⟨Z, hZ, hZ10⟩ := Option.map_eq_some_iff.1 built114z
                        have HZ := hide hZ
                        have HKeep : Hid (∀ (sus : List (List UInt8 × Value)) (v : Nat → Value) (V : World), Mb ((mkK MB RB (S + 1 + 1 + 1) SU WA D (S + 1 + 1 + 1 + 1) S SB Q nr x t (cidL n0) (cidL n1) rel hand wat w).cs sus) D (S + 1 + 1 + 1 + 1) [] v V → At V PB (idV (cidL bv)).toArray 37 → (V.cell? ⟨MB, 29, none⟩ = some (.map (some SU)) ∧ V.rangeAt PB 0 (idV (cidL bv)))) := fun _ _ V m a => by
                          obtain ⟨C, aM, _, _, _, _, _, m6, _⟩ := m.mb
                          exact ⟨(aM.cell _).trans m6, a.all⟩
                        clear HPB hZ hZ10
                        refine wp_region_held_drew (S := fun V => V.cell? ⟨MB, 29, none⟩ = some (.map (some SU)) ∧ V.rangeAt PB 0 (idV (cidL bv))) (by kernel_rfl) (HKeep.out _ _ _ J1.mb aP) (fun hHeld => ?_)
                        refine wpAnyH_take (i := 0) (v := ?_) rfl (by kernel_rfl) (by kernel_rfl) (by kernel_rfl) (fun _ _ _ h => h) (Or.inl ⟨by rfl, ?_⟩) (by assumption) ?_
                        rotate_left
                        · intro w hSw; go_simp; try with_reducible rfl
                        refine wpAnyH_take (i := 1) (v := ?_) rfl (by kernel_rfl) (by kernel_rfl) (by kernel_rfl) (fun _ _ _ h => h) (Or.inl ⟨by rfl, ?_⟩) (by assumption) ?_
                        rotate_left
                        · intro w hSw; go_simp; try with_reducible rfl
                        simp only [Act.put, List.getElem_toArray, List.getElem_cons_succ, List.getElem_cons_zero, List.setIfInBounds_toArray, List.set_cons_zero, List.set_cons_succ]
                        refine wpAnyH_take (i := 5) (v := _) rfl (by kernel_rfl) (by kernel_rfl) (by kernel_rfl) (fun _ _ _ h => h) (yieldsIf_load_mid (by rfl) 37 _ rfl PB 0 rfl (idV (cidL bv)) _ (fun W h => h.2) hu37 rfl hil37) (by assumption) ?_
                        refine wpAnyH_take (i := 2) (v := ?_) rfl (by kernel_rfl) (by kernel_rfl) (by kernel_rfl) (fun _ _ _ h => h) (Or.inl ⟨by rfl, ?_⟩) (by assumption) ?_
                        rotate_left
                        · intro w hSw; go_simp; try with_reducible rfl
                        refine wpAnyH_take (i := 3) (v := ?_) rfl (by kernel_rfl) (by kernel_rfl) (by kernel_rfl) (fun _ _ _ h => h) (Or.inl ⟨by rfl, ?_⟩) (by assumption) ?_
                        rotate_left
                        · intro w hSw; go_simp; try with_reducible rfl
                        refine wpAnyH_take (i := 4) (v := ?_) rfl (by kernel_rfl) (by kernel_rfl) (by kernel_rfl) (fun _ _ _ h => h) (Or.inl ⟨by rfl, ?_⟩) (by assumption) ?_
                        rotate_left
                        · intro w hSw; have q3 := hSw.1; go_simp; try with_reducible rfl
                        simp only [Act.put, List.getElem_toArray, List.getElem_cons_succ, List.getElem_cons_zero, List.setIfInBounds_toArray, List.set_cons_zero, List.set_cons_succ]
                        generalize wc.drew = V0 at *
                        refine wpAnyH_ready (rs := [6]) (by kernel_rfl) (by simp) ?_
                        refine AllReadyH.cons rfl (fun K1 hK1 => ?_) AllReadyH.nil
                        rw [if_pos (by rfl)]
                        refine wp_build_run 114 _ rfl [] (by first | (simp [Act.eval]; done) | simp [Act.eval, Act.put]) _ HZ.out ?_
                        refine hK1.out _ _ hHeld (fun _ => ?_)
                        clear hK1 K1
                        refine wpAnyH_ready (rs := [7]) (by kernel_rfl) (by simp) ?_
                        refine AllReadyH.cons rfl (fun K1 hK1 => ?_) AllReadyH.nil
                        go_simp
                        replace J1 := J1.gr OK.out ((Gr.refl V0).alloc (.cells Z 114))
                        replace aP := aP.gr ((Gr.refl V0).alloc (.cells Z 114))
                        refine hK1.out _ _ (HKeep.out _ _ _ J1.mb aP) (fun hHeld2 => ?_)
                        obtain ⟨X, hX⟩ : ∃ q, q = V0.heap.size := ⟨_, rfl⟩
                        rw [← hX]
                        clear hHeld hK1 K1 hX
                        generalize V0.alloc (.cells Z 114) = V1 at *
                        refine wpAnyH_ready (rs := [8]) (by kernel_rfl) (by simp) ?_
                        refine AllReadyH.cons rfl (fun K1 hK1 => ?_) AllReadyH.nil
                        rw [if_pos (by rfl)]
                        obtain ⟨ob, hrun, hmap⟩ := run_update (w := V1) J1.mb.mS 66 112 Yba.underlying66 (cidL bv) (length_cidL bv) (.pointer (some ⟨X, 0, none⟩))
                        refine wp_mapUpdate_run 66 _ _ _ rfl _ _ _ rfl rfl rfl _ hrun ?_
                        have J2 := J1.susp OK.out ob (cidL bv) ⟨X, 0, none⟩ hmap
                        have aP2 : At (V1.putObj SU ob) PB (idV (cidL bv)).toArray 37 := aP.putObj _ _ (aP.not_map J1.mb.mS)
                        refine hK1.out _ _ (HKeep.out _ _ _ J2.mb aP2) (fun _ => ?_)
                        have JN : Aside (LW (mkK MB RB (S + 1 + 1 + 1) SU WA D (S + 1 + 1 + 1 + 1) S SB Q nr x t (cidL n0) (cidL n1) rel hand wat w) (1 + 4 * (i + 1)) v ids (updE (cidL bv) (.pointer (some ⟨X, 0, none⟩)) sus) (V1.putObj SU ob)) := J2.mono (by omega)
                        clear hK1 K1 hrun hmap J1 J2 aP aP2 hHeld2
                        refine wpAnyH_done (by kernel_rfl) ?_ _
                        go_wp2
                        go_roundg (lx - (i + 1))
                        case measure => omega
                        case rel => exact ⟨i + 1, by go_num, by omega, Nat.le_refl _, _, _, _, JN⟩
        · obtain rfl : i = lx := by omega
          have hiz : ¬ ((i : Int) < (i : Int)) := by omega
          have W0 := J.out.sw (by omega)
          have q45 : wr.cell? ⟨RB, 45, none⟩ = some (v 0) := W0.cell 0 (by show 0 < 2 + nr; omega)
          obtain ⟨b0, cap0, p0, c0, s0⟩ := W0.sort OK.out
          have H23 := hide (sortPeers_calls wr (v 0) (ids 0) b0 0 cap0 p0 c0 (W0.len 0))
          have HS0 := hide s0
          clear J W0 p0 c0 s0
          go_wp2_with fail
          refine H23.out.mono ?_
          rintro e w8 ⟨rfl, ids', hl', hp', hg'⟩
          have W1 := HS0.out w8 ids' hl' hp' hg'
          generalize upd ids 0 ids' = ids1 at *
          clear H23 HS0 hl' hp' hg' q45
          have q46 : w8.cell? ⟨RB, 46, none⟩ = some (v 1) := W1.cell 1 (by show 1 < 2 + nr; omega)
          obtain ⟨b1, cap1, p1, c1, s1⟩ := W1.sort OK.out
          have H23 := hide (sortPeers_calls w8 (v 1) (ids1 1) b1 0 cap1 p1 c1 (W1.len 1))
          have HS1 := hide s1
          clear W1 p1 c1 s1
          go_wp2_with fail
          refine H23.out.mono ?_
          rintro e w9 ⟨rfl, ids'', hl', hp', hg'⟩
          have W2 := hide (HS1.out w9 ids'' hl' hp' hg')
          generalize upd ids1 1 ids'' = ids2 at *
          clear H23 HS1 hl' hp' hg' q46
          have hdd := length_cidL n1
          cases dead with
          | false =>
            go_upto_region 41 with fail
            obtain ⟨WL, hWL⟩ : ∃ q, q = w9.heap.size := ⟨_, rfl⟩
            obtain ⟨w10, hw10⟩ : ∃ q, q = (w9.alloc (.cells #[.bool false, .bool false] 49)).alloc (.cells #[.bool false, .bool false] 49) := ⟨_, rfl⟩
            rw [← hw10, ← hWL]
            have g10 : Gr w9 w10 := by rw [hw10]; exact ((Gr.refl w9).alloc _).alloc _
            have a37 : At w10 WL (twoV (fun _ => false)) 49 := by rw [hw10, hWL]; exact (At.new w9 _ _).alloc _
            have hs10 : w10.heap.size = WL + 1 + 1 := by rw [hw10, hWL]; simp
            have W10 := W2.out.gr OK.out g10
            have r0 := two_cell W10.fix.r 0 (by omega)
            have r1 := two_cell W10.fix.r 1 (by omega)
            have r0 : w10.cell? ⟨S, 0, none⟩ = some (.bool (rel 0)) := r0
            have r1 : w10.cell? ⟨S, 1, none⟩ = some (.bool (rel 1)) := r1
            have HW10 := hide W10
            have HA37 := hide a37
            clear W10 a37 hw10 g10 hWL
            go_upto_region 42 with fail
            clear r0 r1
            obtain ⟨w11, hw11⟩ : ∃ q, q = w10.alloc (.cells #[.bool (rel 0), .bool (rel 1)] 49) := ⟨_, rfl⟩
            rw [← hw11]
            have g11 : Gr w10 w11 := by rw [hw11]; exact (Gr.refl w10).alloc _
            have W11 := HW10.out.gr OK.out g11
            have a37 := HA37.out.gr g11
            have t0 : w11.cell? ⟨S + 1 + 1, 0, none⟩ = some (.bool (wat 0)) := two_cell W11.fix.wt 0 (by omega)
            have t1 : w11.cell? ⟨S + 1 + 1, 1, none⟩ = some (.bool (wat 1)) := two_cell W11.fix.wt 1 (by omega)
            have LQ : Hid ((loadVar 37 ⟨Q, 0, none⟩).run Yba.prog w11 = .ok (.agg (idV (cidL n1)).toArray) w11) := idload W11.fix.did.all hdd
            have H27 : Hid (Calls Yba.prog 27 #[.pointer (some ⟨MB, 0, none⟩), .agg (idV (cidL n1)).toArray, .agg #[.bool (wat 0), .bool (wat 1)]] w11 fun e w' => e = .returned (.agg #[.bool false, .bool false]) ∧ Gr w11 w') := standInNot_calls MB D w11 (cidL n1) hdd wat W11.dmap W11.mb.mD
            have HW11 := hide W11
            have HA := hide a37
            clear W11 a37 g11 hw11 HW10 HA37 W2
            go_upto_region 51 with fail
            go_wp2_with (first | refine wpList_load_run rfl 37 _ rfl Q 0 rfl _ LQ.out ?_)
            refine H27.out.mono ?_
            rintro e w12 ⟨rfl, g12⟩
            have W12 := HW11.out.gr OK.out g12
            have a37 := HA.out.gr g12
            clear H27 LQ t0 t1 HW11 HA
            go_upto_region 52 with fail
            obtain ⟨P41, hP41⟩ : ∃ q, q = w12.heap.size := ⟨_, rfl⟩
            obtain ⟨w13, hw13⟩ : ∃ q, q = w12.alloc (.cells #[.bool false, .bool false] 49) := ⟨_, rfl⟩
            have g13 : Gr w12 w13 := by rw [hw13]; exact (Gr.refl w12).alloc _
            have a41 : At w13 P41 (twoV (fun _ => false)) 49 := by rw [hw13, hP41]; exact At.new w12 _ _
            have a37' := a37.gr g13
            have W13 := W12.gr OK.out g13
            have x0 : w13.cell? ⟨P41, 0, none⟩ = some (.bool false) := two_cell a41 0 (by omega)
            have x1 : w13.cell? ⟨P41, 1, none⟩ = some (.bool false) := two_cell a41 1 (by omega)
            have y0 : w13.cell? ⟨WL, 0, none⟩ = some (.bool false) := two_cell a37' 0 (by omega)
            have y1 : w13.cell? ⟨WL, 1, none⟩ = some (.bool false) := two_cell a37' 1 (by omega)
            have tr : w13.cell? ⟨S + 1 + 1 + 1 + 1, 0, none⟩ = some (.slice none 0 0) := W13.fix.tr.cell 0
            rw [← hP41, ← hw13]
            have HF : Hid (Below w.heap.size w w13) := by have := W13.fr; rw [← HS.out]; exact this
            clear a37 a37' a41 W12 W13 g12 g13 hP41 hw13
            have hq := run_eq49 false false
            go_upto_region 54 with fail
            refine wp_region_quiet_grown (by assumption) (by kernel_rfl) ?_
            iterate 2 (quiet_step (fail))
            iterate 6 go_big_quiet_skip
            repeat (quiet_step (fail))
            refine wpQuiet_nil ?_
            intro _ hw'
            obtain ⟨⟨nq, osq⟩, hw''⟩ := hw'
            subst hw''
            have g14 := (Gr.refl w13).grown nq osq
            have tr := cell_gr g14 tr
            have HF : Hid (Below w.heap.size w (grow (w13.drewN nq) osq)) := below_trans HF.out (g14.below _ HF.out.size)
            clear g14
            generalize grow (w13.drewN nq) osq = w14 at *
            go_wp2_with fail
            go_loopg [271] 0 (fun gg s271 wr => s271 = .int .i64 0 ∧ wr = w14)
            case atStart => exact ⟨rfl, rfl⟩
            case round =>
              obtain ⟨rfl, rfl⟩ := hrel
              go_wp2
              go_ret
              exact ⟨rfl, HF.out⟩
          | true =>
            go_upto_region 38 with fail
            have r0 : w9.cell? ⟨S, 0, none⟩ = some (.bool (rel 0)) := two_cell W2.out.fix.r 0 (by omega)
            have r1 : w9.cell? ⟨S, 1, none⟩ = some (.bool (rel 1)) := two_cell W2.out.fix.r 1 (by omega)
            have k0 : w9.cell? ⟨S + 1, 0, none⟩ = some (.bool (hand 0)) := two_cell W2.out.fix.h 0 (by omega)
            have k1 : w9.cell? ⟨S + 1, 1, none⟩ = some (.bool (hand 1)) := two_cell W2.out.fix.h 1 (by omega)
            have HB14 := hide (built114 stamp (rel 0) (rel 1) (hand 0) (hand 1))
            go_upto_region 39 with (first | refine wpList_build_run rfl 114 _ rfl [(0, .int .u64 stamp), (2, .agg #[.bool (rel 0), .bool (rel 1)]), (3, .agg #[.bool (hand 0), .bool (hand 1)])] (by first | (simp [Act.eval]; done) | (simp [Act.eval, Act.put]; done)) _ HB14.out ?_)
            clear r0 r1 k0 k1 HB14
            obtain ⟨NB, hNB⟩ : ∃ q, q = w9.heap.size := ⟨_, rfl⟩
            obtain ⟨w10, hw10⟩ : ∃ q, q = w9.alloc (.cells #[.int .u64 stamp, .int .i64 0, .bool (rel 0), .bool (rel 1), .bool (hand 0), .bool (hand 1), .int .u64 0, .int .u64 0, .pointer none, .int .u16 0] 114) := ⟨_, rfl⟩
            rw [← hw10, ← hNB]
            have g10 : Gr w9 w10 := by rw [hw10]; exact (Gr.refl w9).alloc _
            have aN : At w10 NB (notV stamp rel hand) 114 := by rw [hw10, hNB]; exact At.new w9 _ _
            have J1 := (W2.out.gr OK.out g10).gr OK.out ((Gr.refl w10).drew)
            have aN1 := aN.gr ((Gr.refl w10).drew)
            have hNBS : S ≤ NB := by rw [hNB]; exact W2.out.size OK.out
            clear hw10 hNB g10 aN W2
            have hu37 := Yba.underlying37
            have hil37 : (Yba.prog.info? 37).map (·.size) = some (idV (cidL n1)).length := by rw [length_idV, hdd]; kernel_rfl
            have S39 : Hid (w10.drew.cell? ⟨MB, 28, none⟩ = some (.map (some D)) ∧ w10.drew.rangeAt Q 0 (idV (cidL n1))) := ⟨J1.dmap, J1.fix.did.all⟩
            refine wp_region_held_drew (S := fun V => V.cell? ⟨MB, 28, none⟩ = some (.map (some D)) ∧ V.rangeAt Q 0 (idV (cidL n1))) (by kernel_rfl) S39.out (fun hHeld => ?_)
            refine wpAnyH_take (i := 0) (v := ?_) rfl (by kernel_rfl) (by kernel_rfl) (by kernel_rfl) (fun _ _ _ h => h) (Or.inl ⟨by rfl, ?_⟩) (by assumption) ?_
            rotate_left
            · intro w hSw; go_simp; try with_reducible rfl
            refine wpAnyH_take (i := 1) (v := ?_) rfl (by kernel_rfl) (by kernel_rfl) (by kernel_rfl) (fun _ _ _ h => h) (Or.inl ⟨by rfl, ?_⟩) (by assumption) ?_
            rotate_left
            · intro w hSw; go_simp; try with_reducible rfl
            simp only [Act.put, List.getElem_toArray, List.getElem_cons_succ, List.getElem_cons_zero, List.setIfInBounds_toArray, List.set_cons_zero, List.set_cons_succ]
            refine wpAnyH_take (i := 5) (v := _) rfl (by kernel_rfl) (by kernel_rfl) (by kernel_rfl) (fun _ _ _ h => h) (yieldsIf_load_mid (by rfl) 37 _ rfl Q 0 rfl (idV (cidL n1)) _ (fun W h => h.2) hu37 rfl hil37) (by assumption) ?_
            refine wpAnyH_take (i := 2) (v := ?_) rfl (by kernel_rfl) (by kernel_rfl) (by kernel_rfl) (fun _ _ _ h => h) (Or.inl ⟨by rfl, ?_⟩) (by assumption) ?_
            rotate_left
            · intro w hSw; go_simp; try with_reducible rfl
            refine wpAnyH_take (i := 3) (v := ?_) rfl (by kernel_rfl) (by kernel_rfl) (by kernel_rfl) (fun _ _ _ h => h) (Or.inl ⟨by rfl, ?_⟩) (by assumption) ?_
            rotate_left
            · intro w hSw; go_simp; try with_reducible rfl
            refine wpAnyH_take (i := 4) (v := ?_) rfl (by kernel_rfl) (by kernel_rfl) (by kernel_rfl) (fun _ _ _ h => h) (Or.inl ⟨by rfl, ?_⟩) (by assumption) ?_
            rotate_left
            · intro w hSw; have q3 := hSw.1; go_simp; try with_reducible rfl
            refine wpAnyH_take (i := 6) (v := ?_) rfl (by kernel_rfl) (by kernel_rfl) (by kernel_rfl) (fun _ _ _ h => h) (Or.inl ⟨by rfl, ?_⟩) (by assumption) ?_
            rotate_left
            · intro w hSw; go_simp; try with_reducible rfl
            simp only [Act.put, List.getElem_toArray, List.getElem_cons_succ, List.getElem_cons_zero, List.setIfInBounds_toArray, List.set_cons_zero, List.set_cons_succ]
            clear S39 hHeld
            generalize w10.drew = V0 at *
            obtain ⟨ob, hrun, hmap⟩ : ∃ ob, (Instr.mapUpdate 66 (.map (some D)) (.agg (idV (cidL n1)).toArray) (.pointer (some ⟨NB, 0, none⟩))).run Yba.prog V0 = .ok () (V0.putObj D ob) ∧ MapAt (V0.putObj D ob) D (updE (cidL n1) (.pointer (some ⟨NB, 0, none⟩)) []) := run_update (w := V0) J1.mb.mD 66 112 Yba.underlying66 (cidL n1) hdd (.pointer (some ⟨NB, 0, none⟩))
            have hupd : updE (cidL n1) (.pointer (some ⟨NB, 0, none⟩)) [] = [(cidL n1, .pointer (some ⟨NB, 0, none⟩))] := by simp [updE, findI]
            rw [hupd] at hmap
            refine wpAnyH_ready (rs := [7]) (by kernel_rfl) (by simp) ?_
            refine AllReadyH.cons rfl (fun K1 hK1 => ?_) AllReadyH.nil
            rw [if_pos (by rfl)]
            refine wp_mapUpdate_run 66 _ _ _ rfl _ _ _ rfl rfl rfl _ hrun ?_
            have J2 := J1.dead OK.out ob hmap
            have aN2 := aN1.putObj D ob (aN1.not_map J1.mb.mD)
            refine hK1.out _ _ ⟨J2.dmap, J2.fix.did.all⟩ (fun _ => ?_)
            have J3 : Hid (SW (mkK MB RB (S + 1 + 1 + 1) SU WA D (S + 1 + 1 + 1 + 1) S SB Q nr x t (cidL n0) (cidL n1) rel hand wat w) 2 [(cidL n1, .pointer (some ⟨NB, 0, none⟩))] v ids2 sus (V0.putObj D ob) ∧ At (V0.putObj D ob) NB (notV stamp rel hand) 114) := ⟨J2, aN2⟩
            clear hK1 K1 hrun hmap J1 J2 aN1 aN2 hupd
            refine wpAnyH_done (by kernel_rfl) ?_ _
            obtain ⟨w11, hw11⟩ : ∃ q, q = V0.putObj D ob := ⟨_, rfl⟩
            have J3 : Hid (SW (mkK MB RB (S + 1 + 1 + 1) SU WA D (S + 1 + 1 + 1 + 1) S SB Q nr x t (cidL n0) (cidL n1) rel hand wat w) 2 [(cidL n1, .pointer (some ⟨NB, 0, none⟩))] v ids2 sus w11 ∧ At w11 NB (notV stamp rel hand) 114) := by rw [hw11]; exact J3
            rw [← hw11]
            clear hw11
            go_upto_region 41 with fail
            obtain ⟨WL, hWL⟩ : ∃ q, q = w11.heap.size := ⟨_, rfl⟩
            obtain ⟨w12, hw12⟩ : ∃ q, q = (w11.alloc (.cells #[.bool false, .bool false] 49)).alloc (.cells #[.bool false, .bool false] 49) := ⟨_, rfl⟩
            rw [← hw12, ← hWL]
            have W12 := J3.out.1.gr OK.out (show Gr w11 w12 by rw [hw12]; exact ((Gr.refl w11).alloc _).alloc _)
            have hs12 : w12.heap.size = WL + 1 + 1 := by rw [hw12, hWL]; simp
            have r0 : w12.cell? ⟨S, 0, none⟩ = some (.bool (rel 0)) := two_cell W12.fix.r 0 (by omega)
            have r1 : w12.cell? ⟨S, 1, none⟩ = some (.bool (rel 1)) := two_cell W12.fix.r 1 (by omega)
            have D0 := ds_start J3.out.1 OK.out J3.out.2
            rw [← hWL] at D0
            have D0 : Hid (DS (mkK MB RB (S + 1 + 1 + 1) SU WA D (S + 1 + 1 + 1 + 1) S SB Q nr x t (cidL n0) (cidL n1) rel hand wat w) [(cidL n1, .pointer (some ⟨NB, 0, none⟩))] v ids2 sus stamp NB WL 0 (w12.alloc (.cells #[.bool (rel 0), .bool (rel 1)] 49))) := by rw [hw12]; exact D0
            clear W12 hw12 hWL J3
            go_upto_region 42 with fail
            clear r0 r1 hs12
            generalize w12.alloc (.cells #[.bool (rel 0), .bool (rel 1)] 49) = w13 at *
            have J : Aside (DS (mkK MB RB (S + 1 + 1 + 1) SU WA D (S + 1 + 1 + 1 + 1) S SB Q nr x t (cidL n0) (cidL n1) rel hand wat w) [(cidL n1, .pointer (some ⟨NB, 0, none⟩))] v ids2 sus stamp NB WL 0 w13) := D0.out
            clear D0
            go_wp2_with fail
            go_loopg [40] nr (fun gg s40 wr => ∃ d : Nat, s40 = .int .i64 d ∧ d ≤ nr ∧ nr - d ≤ gg ∧ Aside (DS (mkK MB RB (S + 1 + 1 + 1) SU WA D (S + 1 + 1 + 1 + 1) S SB Q nr x t (cidL n0) (cidL n1) rel hand wat w) [(cidL n1, .pointer (some ⟨NB, 0, none⟩))] v ids2 sus stamp NB WL d wr))
            case atStart => exact ⟨0, rfl, Nat.zero_le _, by omega, J⟩
            case round =>
              clear J
              obtain ⟨d, rfl, hdle, hg1, J⟩ := hrel
              by_cases hdn : d < nr
              · have hd2 : d < 2 := by omega
                have hdz : (d : Int) < (nr : Int) := by omega
                have hdz2 : (d : Int) < 2 := by omega
                have hdz0 : (0 : Int) ≤ (d : Int) := by omega
                have q1 : wr.cell? ⟨S, d, none⟩ = some (.bool (rel d)) := two_cell J.out.sw.fix.r d hd2
                have q2 : wr.cell? ⟨S + 1, d, none⟩ = some (.bool (hand d)) := two_cell J.out.sw.fix.h d hd2
                have LDd : Hid (∀ W, Gr wr W → (loadVar 37 ⟨Q, 0, none⟩).run Yba.prog W = .ok (.agg (idV (cidL n1)).toArray) W) := fun W hW => idload (J.out.sw.fix.did.gr hW).all hdd
                have gw : Gr wr wr := Gr.refl wr
                obtain ⟨rd, hrd⟩ : ∃ rd, rel d = rd := ⟨_, rfl⟩
                obtain ⟨hd, hhd⟩ : ∃ hd, hand d = hd := ⟨_, rfl⟩
                rw [hrd] at q1
                rw [hhd] at q2
                cases rd with
                | true =>
                  have hfre : fre ((mkK MB RB (S + 1 + 1 + 1) SU WA D (S + 1 + 1 + 1 + 1) S SB Q nr x t (cidL n0) (cidL n1) rel hand wat w).cf sus ids2) (cidL n1) rel hand wat d = false := by unfold fre skp; rw [hrd]; simp
                  have hlef : lef ((mkK MB RB (S + 1 + 1 + 1) SU WA D (S + 1 + 1 + 1 + 1) S SB Q nr x t (cidL n0) (cidL n1) rel hand wat w).cf sus ids2) (cidL n1) rel hand wat d = false := by unfold lef skp; rw [hrd]; simp
                  have JN : Aside (DS (mkK MB RB (S + 1 + 1 + 1) SU WA D (S + 1 + 1 + 1 + 1) S SB Q nr x t (cidL n0) (cidL n1) rel hand wat w) [(cidL n1, .pointer (some ⟨NB, 0, none⟩))] v ids2 sus stamp NB WL (d + 1) wr) := J.out.skip hfre hlef
                  clear J LDd gw hfre hlef hrd hhd
                  go_wp2
                  go_roundg (nr - (d + 1))
                  case measure => omega
                  case rel => exact ⟨d + 1, by go_num, by omega, Nat.le_refl _, JN⟩
                | false =>
                  cases hd with
                  | true =>
                    have hfre : fre ((mkK MB RB (S + 1 + 1 + 1) SU WA D (S + 1 + 1 + 1 + 1) S SB Q nr x t (cidL n0) (cidL n1) rel hand wat w).cf sus ids2) (cidL n1) rel hand wat d = false := by unfold fre skp; rw [hrd, hhd]; simp
                    have hlef : lef ((mkK MB RB (S + 1 + 1 + 1) SU WA D (S + 1 + 1 + 1 + 1) S SB Q nr x t (cidL n0) (cidL n1) rel hand wat w).cf sus ids2) (cidL n1) rel hand wat d = false := by unfold lef skp; rw [hrd, hhd]; simp
                    have JN : Aside (DS (mkK MB RB (S + 1 + 1 + 1) SU WA D (S + 1 + 1 + 1 + 1) S SB Q nr x t (cidL n0) (cidL n1) rel hand wat w) [(cidL n1, .pointer (some ⟨NB, 0, none⟩))] v ids2 sus stamp NB WL (d + 1) wr) := J.out.skip hfre hlef
                    clear J LDd gw hfre hlef hrd hhd
                    go_wp2
                    go_roundg (nr - (d + 1))
                    case measure => omega
                    case rel => exact ⟨d + 1, by go_num, by omega, Nat.le_refl _, JN⟩
                  | false =>
                    have H25 : Hid (Calls Yba.prog 25 #[.pointer (some ⟨MB, 0, none⟩), .int .i64 (d : Int), .agg (idV (cidL n1)).toArray] wr fun e w' => e = .returned (.bool (inG ((mkK MB RB (S + 1 + 1 + 1) SU WA D (S + 1 + 1 + 1 + 1) S SB Q nr x t (cidL n0) (cidL n1) rel hand wat w).cf sus ids2) d (viewL x d (cidL n1)))) ∧ Gr wr w') := inGroup_calls ((mkK MB RB (S + 1 + 1 + 1) SU WA D (S + 1 + 1 + 1 + 1) S SB Q nr x t (cidL n0) (cidL n1) rel hand wat w).cf sus ids2) (OK.out.cfg J.out.sw.sus ids2) wr (J.out.sw.mem OK.out) d hdn (cidL n1) hdd
                    obtain ⟨ig, hig⟩ : ∃ ig, inG ((mkK MB RB (S + 1 + 1 + 1) SU WA D (S + 1 + 1 + 1 + 1) S SB Q nr x t (cidL n0) (cidL n1) rel hand wat w).cf sus ids2) d (viewL x d (cidL n1)) = ig := ⟨_, rfl⟩
                    rw [hig] at H25
                    go_wp2_with (first | refine wpList_load_want 37 _ rfl Q 0 rfl _ (LDd.out _ (by assumption)) (by kernel_rfl) ?_)
                    refine H25.out.mono ?_
                    rintro e w14 ⟨rfl, g14⟩
                    have gw2 := gw.trans g14
                    clear gw
                    have gw := gw2
                    clear gw2
                    have J4 : Aside (DS (mkK MB RB (S + 1 + 1 + 1) SU WA D (S + 1 + 1 + 1 + 1) S SB Q nr x t (cidL n0) (cidL n1) rel hand wat w) [(cidL n1, .pointer (some ⟨NB, 0, none⟩))] v ids2 sus stamp NB WL d w14) := J.out.gr OK.out g14
                    clear J g14 H25 q1 q2
                    have J := J4
                    clear J4
                    cases ig with
                    | false =>
                      have hfre : fre ((mkK MB RB (S + 1 + 1 + 1) SU WA D (S + 1 + 1 + 1 + 1) S SB Q nr x t (cidL n0) (cidL n1) rel hand wat w).cf sus ids2) (cidL n1) rel hand wat d = false := by unfold fre skp; rw [hrd, hhd, show inG ((mkK MB RB (S + 1 + 1 + 1) SU WA D (S + 1 + 1 + 1 + 1) S SB Q nr x t (cidL n0) (cidL n1) rel hand wat w).cf sus ids2) d (viewL (((mkK MB RB (S + 1 + 1 + 1) SU WA D (S + 1 + 1 + 1 + 1) S SB Q nr x t (cidL n0) (cidL n1) rel hand wat w).cf sus ids2)).f d (cidL n1)) = false from hig]; rfl
                      have hlef : lef ((mkK MB RB (S + 1 + 1 + 1) SU WA D (S + 1 + 1 + 1 + 1) S SB Q nr x t (cidL n0) (cidL n1) rel hand wat w).cf sus ids2) (cidL n1) rel hand wat d = false := by unfold lef skp; rw [hrd, hhd, show inG ((mkK MB RB (S + 1 + 1 + 1) SU WA D (S + 1 + 1 + 1 + 1) S SB Q nr x t (cidL n0) (cidL n1) rel hand wat w).cf sus ids2) d (viewL (((mkK MB RB (S + 1 + 1 + 1) SU WA D (S + 1 + 1 + 1 + 1) S SB Q nr x t (cidL n0) (cidL n1) rel hand wat w).cf sus ids2)).f d (cidL n1)) = false from hig]; rfl
                      have JN : Aside (DS (mkK MB RB (S + 1 + 1 + 1) SU WA D (S + 1 + 1 + 1 + 1) S SB Q nr x t (cidL n0) (cidL n1) rel hand wat w) [(cidL n1, .pointer (some ⟨NB, 0, none⟩))] v ids2 sus stamp NB WL (d + 1) w14) := J.out.skip hfre hlef
                      clear J LDd gw hfre hlef hrd hhd hig
                      go_wp2
                      go_roundg (nr - (d + 1))
                      case measure => omega
                      case rel => exact ⟨d + 1, by go_num, by omega, Nat.le_refl _, JN⟩
                    | true =>
                      have hskp : skp ((mkK MB RB (S + 1 + 1 + 1) SU WA D (S + 1 + 1 + 1 + 1) S SB Q nr x t (cidL n0) (cidL n1) rel hand wat w).cf sus ids2) (cidL n1) rel hand d = false := by unfold skp; rw [hrd, hhd, show inG ((mkK MB RB (S + 1 + 1 + 1) SU WA D (S + 1 + 1 + 1 + 1) S SB Q nr x t (cidL n0) (cidL n1) rel hand wat w).cf sus ids2) d (viewL (((mkK MB RB (S + 1 + 1 + 1) SU WA D (S + 1 + 1 + 1 + 1) S SB Q nr x t (cidL n0) (cidL n1) rel hand wat w).cf sus ids2)).f d (cidL n1)) = true from hig]; rfl
                      have q5 : w14.cell? ⟨S + 1 + 1, d, none⟩ = some (.bool (wat d)) := two_cell J.out.sw.fix.wt d hd2
                      obtain ⟨wt, hwt⟩ : ∃ wt, wat d = wt := ⟨_, rfl⟩
                      rw [hwt] at q5
                      cases wt with
                      | false =>
                        have hfre : fre ((mkK MB RB (S + 1 + 1 + 1) SU WA D (S + 1 + 1 + 1 + 1) S SB Q nr x t (cidL n0) (cidL n1) rel hand wat w).cf sus ids2) (cidL n1) rel hand wat d = true := by unfold fre; rw [hskp, hwt]; rfl
                        have hlef : lef ((mkK MB RB (S + 1 + 1 + 1) SU WA D (S + 1 + 1 + 1 + 1) S SB Q nr x t (cidL n0) (cidL n1) rel hand wat w).cf sus ids2) (cidL n1) rel hand wat d = false := by unfold lef; rw [hskp, hwt]; rfl
                        have JN : Aside (DS (mkK MB RB (S + 1 + 1 + 1) SU WA D (S + 1 + 1 + 1 + 1) S SB Q nr x t (cidL n0) (cidL n1) rel hand wat w) [(cidL n1, .pointer (some ⟨NB, 0, none⟩))] v ids2 sus stamp NB WL (d + 1) ((w14.setCell ⟨WL + 1 + 1, d, none⟩ (.bool true)).setCell ⟨WL + 1, d, none⟩ (.bool true))) := J.out.fresh hd2 hfre hlef
                        have y0 := two_cell J.out.wr d hd2
                        have y1 := J.out.wr.frozen d
                        have z0 := two_cell (J.out.fh.setOther ⟨WL + 1 + 1, d, none⟩ (.bool true) (by show WL + 1 ≠ WL + 1 + 1; omega)) d hd2
                        have z1 := (J.out.fh.setOther ⟨WL + 1 + 1, d, none⟩ (.bool true) (by show WL + 1 ≠ WL + 1 + 1; omega)).frozen d
                        clear J LDd gw hfre hlef hrd hhd hig hskp hwt
                        go_wp2
                        go_roundg (nr - (d + 1))
                        case measure => omega
                        case rel => exact ⟨d + 1, by go_num, by omega, Nat.le_refl _, JN⟩
                      | true =>
                        have H26 : Hid (Calls Yba.prog 26 #[.pointer (some ⟨MB, 0, none⟩), .int .i64 (d : Int), .agg (idV (cidL n1)).toArray] w14 fun e w' => e = .returned (.bool (!(spkB ((mkK MB RB (S + 1 + 1 + 1) SU WA D (S + 1 + 1 + 1 + 1) S SB Q nr x t (cidL n0) (cidL n1) rel hand wat w).cf sus ids2) d (cidL n1)))) ∧ Gr w14 w') := speaksFor_calls ((mkK MB RB (S + 1 + 1 + 1) SU WA D (S + 1 + 1 + 1 + 1) S SB Q nr x t (cidL n0) (cidL n1) rel hand wat w).cf sus ids2) (OK.out.cfg J.out.sw.sus ids2) w14 (J.out.sw.mem OK.out) d hdn (cidL n1) hdd (J.out.sw.len (2 + d)) (J.out.sw.l20 (2 + d))
                        obtain ⟨sp, hsp⟩ : ∃ sp, spkB ((mkK MB RB (S + 1 + 1 + 1) SU WA D (S + 1 + 1 + 1 + 1) S SB Q nr x t (cidL n0) (cidL n1) rel hand wat w).cf sus ids2) d (cidL n1) = sp := ⟨_, rfl⟩
                        rw [hsp] at H26
                        go_wp2_with (first | refine wpList_load_want 37 _ rfl Q 0 rfl _ (LDd.out _ (by assumption)) (by kernel_rfl) ?_)
                        refine H26.out.mono ?_
                        rintro e w15 ⟨rfl, g15⟩
                        have J5 : Aside (DS (mkK MB RB (S + 1 + 1 + 1) SU WA D (S + 1 + 1 + 1 + 1) S SB Q nr x t (cidL n0) (cidL n1) rel hand wat w) [(cidL n1, .pointer (some ⟨NB, 0, none⟩))] v ids2 sus stamp NB WL d w15) := J.out.gr OK.out g15
                        clear J g15 H26 q5
                        have J := J5
                        clear J5
                        cases sp with
                        | false =>
                          have hfre : fre ((mkK MB RB (S + 1 + 1 + 1) SU WA D (S + 1 + 1 + 1 + 1) S SB Q nr x t (cidL n0) (cidL n1) rel hand wat w).cf sus ids2) (cidL n1) rel hand wat d = true := by unfold fre; rw [hskp, hwt, hsp]; rfl
                          have hlef : lef ((mkK MB RB (S + 1 + 1 + 1) SU WA D (S + 1 + 1 + 1 + 1) S SB Q nr x t (cidL n0) (cidL n1) rel hand wat w).cf sus ids2) (cidL n1) rel hand wat d = false := by unfold lef; rw [hskp, hwt, hsp]; rfl
                          have JN : Aside (DS (mkK MB RB (S + 1 + 1 + 1) SU WA D (S + 1 + 1 + 1 + 1) S SB Q nr x t (cidL n0) (cidL n1) rel hand wat w) [(cidL n1, .pointer (some ⟨NB, 0, none⟩))] v ids2 sus stamp NB WL (d + 1) ((w15.setCell ⟨WL + 1 + 1, d, none⟩ (.bool true)).setCell ⟨WL + 1, d, none⟩ (.bool true))) := J.out.fresh hd2 hfre hlef
                          have y0 := two_cell J.out.wr d hd2
                          have y1 := J.out.wr.frozen d
                          have z0 := two_cell (J.out.fh.setOther ⟨WL + 1 + 1, d, none⟩ (.bool true) (by show WL + 1 ≠ WL + 1 + 1; omega)) d hd2
                          have z1 := (J.out.fh.setOther ⟨WL + 1 + 1, d, none⟩ (.bool true) (by show WL + 1 ≠ WL + 1 + 1; omega)).frozen d
                          clear J LDd gw hfre hlef hrd hhd hig hskp hwt hsp
                          go_wp2
                          go_roundg (nr - (d + 1))
                          case measure => omega
                          case rel => exact ⟨d + 1, by go_num, by omega, Nat.le_refl _, JN⟩
                        | true =>
                          have hfre : fre ((mkK MB RB (S + 1 + 1 + 1) SU WA D (S + 1 + 1 + 1 + 1) S SB Q nr x t (cidL n0) (cidL n1) rel hand wat w).cf sus ids2) (cidL n1) rel hand wat d = false := by unfold fre; rw [hskp, hwt, hsp]; rfl
                          have hlef : lef ((mkK MB RB (S + 1 + 1 + 1) SU WA D (S + 1 + 1 + 1 + 1) S SB Q nr x t (cidL n0) (cidL n1) rel hand wat w).cf sus ids2) (cidL n1) rel hand wat d = true := by unfold lef; rw [hskp, hwt, hsp]; rfl
                          have q6 := two_cell J.out.wl d hd2
                          have f6 := J.out.wl.frozen d
                          have JN : Aside (DS (mkK MB RB (S + 1 + 1 + 1) SU WA D (S + 1 + 1 + 1 + 1) S SB Q nr x t (cidL n0) (cidL n1) rel hand wat w) [(cidL n1, .pointer (some ⟨NB, 0, none⟩))] v ids2 sus stamp NB WL (d + 1) (w15.setCell ⟨WL, d, none⟩ (.bool true))) := J.out.left hd2 hfre hlef
                          clear hskp hwt hig hrd hhd hsp LDd gw J hfre hlef
                          go_wp2
                          go_roundg (nr - (d + 1))
                          case measure => omega
                          case rel => exact ⟨d + 1, by go_num, by omega, Nat.le_refl _, JN⟩
              · obtain rfl : nr = d := by omega
                have hdz : ¬ ((nr : Int) < (nr : Int)) := by omega
                obtain ⟨F, hF⟩ : ∃ F, F = lfD ((mkK MB RB (S + 1 + 1 + 1) SU WA D (S + 1 + 1 + 1 + 1) S SB Q nr x t (cidL n0) (cidL n1) rel hand wat w).cf sus ids2) (cidL n1) rel hand wat nr := ⟨_, rfl⟩
                obtain ⟨G, hG⟩ : ∃ G, G = rlD ((mkK MB RB (S + 1 + 1 + 1) SU WA D (S + 1 + 1 + 1 + 1) S SB Q nr x t (cidL n0) (cidL n1) rel hand wat w).cf sus ids2) (cidL n1) rel hand wat nr := ⟨_, rfl⟩
                obtain ⟨R, hR⟩ : ∃ R, R = frD ((mkK MB RB (S + 1 + 1 + 1) SU WA D (S + 1 + 1 + 1 + 1) S SB Q nr x t (cidL n0) (cidL n1) rel hand wat w).cf sus ids2) (cidL n1) rel hand wat nr := ⟨_, rfl⟩
                have B0 := J.out.sw.base OK.out J.out.nb (by simp [notV])
                have H27 : Calls Yba.prog 27 #[.pointer (some ⟨MB, 0, none⟩), .agg (idV (cidL n1)).toArray, .agg #[.bool (wat 0), .bool (wat 1)]] wr fun e w' => e = .returned (.agg (twoV (lfD ((mkK MB RB (S + 1 + 1 + 1) SU WA D (S + 1 + 1 + 1 + 1) S SB Q nr x t (cidL n0) (cidL n1) rel hand wat w).cf sus ids2) (cidL n1) rel hand wat nr))) ∧ ∃ ob ms, RS (S + 1 + 1 + 1 + 1) NB S wr ob ms w' ∧ Env wr w' ∧ (∀ m ∈ ms, ∃ r, r < 2 ∧ fre ((mkK MB RB (S + 1 + 1 + 1) SU WA D (S + 1 + 1 + 1 + 1) S SB Q nr x t (cidL n0) (cidL n1) rel hand wat w).cf sus ids2) (cidL n1) rel hand wat r = true ∧ r < nr ∧ Msg (r : Int) (cidL n1) stamp m) ∧ ms.length ≤ 1280 ∧ At w' NB (notV stamp (rlD ((mkK MB RB (S + 1 + 1 + 1) SU WA D (S + 1 + 1 + 1 + 1) S SB Q nr x t (cidL n0) (cidL n1) rel hand wat w).cf sus ids2) (cidL n1) rel hand wat nr) hand) 114 :=
                  standIn_calls ((mkK MB RB (S + 1 + 1 + 1) SU WA D (S + 1 + 1 + 1 + 1) S SB Q nr x t (cidL n0) (cidL n1) rel hand wat w).cf sus ids2) (OK.out.cfg J.out.sw.sus ids2) ids2 (S + 1 + 1 + 1 + 1) NB S D wr B0 (cidL n1) hdd rel hand wat stamp J.out.sw.dmap J.out.sw.mb.mD J.out.nb J.out.sw.log (fun r _ => J.out.sw.len r) (fun r _ => J.out.sw.len (2 + r)) (fun r _ => J.out.sw.l20 (2 + r))
                rw [← hF, ← hG] at H27
                have H27 : Hid (Calls Yba.prog 27 #[.pointer (some ⟨MB, 0, none⟩), .agg (idV (cidL n1)).toArray, .agg #[.bool (wat 0), .bool (wat 1)]] wr fun e w' => e = .returned (.agg #[.bool (F 0), .bool (F 1)]) ∧ ∃ ob ms, RS (S + 1 + 1 + 1 + 1) NB S wr ob ms w' ∧ Env wr w' ∧ (∀ m ∈ ms, ∃ r, r < 2 ∧ fre ((mkK MB RB (S + 1 + 1 + 1) SU WA D (S + 1 + 1 + 1 + 1) S SB Q nr x t (cidL n0) (cidL n1) rel hand wat w).cf sus ids2) (cidL n1) rel hand wat r = true ∧ r < nr ∧ Msg (r : Int) (cidL n1) stamp m) ∧ ms.length ≤ 1280 ∧ At w' NB (notV stamp G hand) 114) := H27
                have t0 : wr.cell? ⟨S + 1 + 1, 0, none⟩ = some (.bool (wat 0)) := two_cell J.out.sw.fix.wt 0 (by omega)
                have t1 : wr.cell? ⟨S + 1 + 1, 1, none⟩ = some (.bool (wat 1)) := two_cell J.out.sw.fix.wt 1 (by omega)
                have LQ : Hid ((loadVar 37 ⟨Q, 0, none⟩).run Yba.prog wr = .ok (.agg (idV (cidL n1)).toArray) wr) := idload J.out.sw.fix.did.all hdd
                have aWL := J.out.wl
                have aFR := J.out.fh
                have aWR := J.out.wr
                have aWL : At wr WL (twoV F) 49 := by rw [hF]; exact aWL
                have aFR : At wr (WL + 1) (twoV R) 49 := by rw [hR]; exact aFR
                have aWR : At wr (WL + 1 + 1) (twoV G) 49 := by rw [hG]; exact aWR
                have hfr : Below S w wr := J.out.sw.fr
                have aTR : At wr (S + 1 + 1 + 1 + 1) #[.slice none 0 0] 55 := J.out.sw.fix.tr
                have aQ : At wr Q (idV (cidL n1)).toArray 37 := J.out.sw.fix.did
                have aNB := J.out.nb
                have HA := hide (And.intro aWL (And.intro aFR (And.intro aWR (And.intro hfr (And.intro aTR (And.intro aQ (And.intro aNB (And.intro hR hNBS))))))))
                clear B0 aWL aFR aWR hfr aTR aQ aNB hF hG hR J hNBS
                go_upto_region 51 with fail
                go_wp2_with (first | refine wpList_load_run rfl 37 _ rfl Q 0 rfl _ LQ.out ?_)
                refine H27.out.mono ?_
                rintro e w16 ⟨rfl, ob, ms, hrs, henv, hms, hml, hnb⟩
                obtain ⟨aWL, aFR, aWR, hfr, aTR, aQ, aNB, hR, hNBS⟩ := HA.out
                have hkeep : ∀ {b : Nat} {C : Array Value} {t : TypeId}, At wr b C t → t ≠ 55 → t ≠ 114 → At w16 b C t := fun {b C t} a h1 h2 => a.of_heap (hrs.keep b a.lt (a.ne aTR h1) (a.ne aNB h2))
                have aWL := hkeep aWL (by decide) (by decide)
                have aFR := hkeep aFR (by decide) (by decide)
                have aWR := hkeep aWR (by decide) (by decide)
                have aQ := hkeep aQ (by decide) (by decide)
                have hfr : Below S w w16 := ⟨henv.os.trans hfr.os, henv.tape.trans hfr.tape, henv.output.trans hfr.output, Nat.le_trans hfr.size hrs.size, fun q hq => by
                  have hS0 : S ≤ wr.heap.size := by rw [HS.out]; exact hfr.size
                  rw [hrs.keep q (by omega) (by omega) (by omega), hfr.block q hq]⟩
                obtain ⟨va, vc, aT, hlog⟩ := hrs.log.form (fun m hm => by obtain ⟨r, _, _, _, h⟩ := hms m hm; exact h.len)
                obtain ⟨nm, hnm⟩ : ∃ nm, nm = ms.length := ⟨_, rfl⟩
                rw [← hnm] at aT hml
                clear H27 LQ t0 t1 HA hkeep hrs henv
                go_upto_region 52 with fail
                obtain ⟨P41, hP41⟩ : ∃ q, q = w16.heap.size := ⟨_, rfl⟩
                obtain ⟨w17, hw17⟩ : ∃ q, q = w16.alloc (.cells #[.bool (F 0), .bool (F 1)] 49) := ⟨_, rfl⟩
                have g17 : Gr w16 w17 := by rw [hw17]; exact (Gr.refl w16).alloc _
                have a41 : At w17 P41 (twoV F) 49 := by rw [hw17, hP41]; exact At.new w16 _ _
                have x0 := two_cell a41 0 (by omega)
                have x1 := two_cell a41 1 (by omega)
                have y0 := two_cell (aWL.gr g17) 0 (by omega)
                have y1 := two_cell (aWL.gr g17) 1 (by omega)
                have aNB := hnb
                have HA := hide (And.intro (aFR.gr g17) (And.intro (aWR.gr g17) (And.intro (below_trans hfr (g17.below _ (by rw [HS.out]; exact hfr.size))) (And.intro (aT.gr g17) (And.intro (aQ.gr g17) (hnb.gr g17))))))
                have HL : Hid (∀ i m, ms[i]? = some m → ∃ g : Nat, va = some ⟨g, 0, none⟩ ∧ w17.rangeAt g (i * 99) m) := fun i m hm => by
                  obtain ⟨g, h1, h2⟩ := hlog i m hm
                  exact ⟨g, h1, rangeAt_gr g17 h2⟩
                have HMs := hide (And.intro hms (And.intro hnm hR))
                rw [← hw17, ← hP41]
                have hq := run_eq49 (F 0) (F 1)
                clear aWL aFR aWR hfr aT aQ hnb aNB a41 g17 hw17 hP41 hlog hms hnm hR aTR
                go_upto_region 54 with fail
                clear x0 x1 y0 y1 hq
                have n0' := fun k os => cell_gr ((Gr.refl w17).grown k os) (not_rel HA.out.2.2.2.2.2 0 (by omega))
                have n1' := fun k os => cell_gr ((Gr.refl w17).grown k os) (not_rel HA.out.2.2.2.2.2 1 (by omega))
                have r0' := fun k os => cell_gr ((Gr.refl w17).grown k os) (two_cell HA.out.2.1 0 (by omega))
                have r1' := fun k os => cell_gr ((Gr.refl w17).grown k os) (two_cell HA.out.2.1 1 (by omega))
                have hq := run_eq49 (G 0) (G 1)
                refine wp_region_quiet_grown (by assumption) (by kernel_rfl) ?_
                repeat (quiet_step (fail))
                refine wpQuiet_nil ?_
                intro _ hw'
                obtain ⟨⟨nq, osq⟩, hw''⟩ := hw'
                subst hw''
                clear n0' n1' r0' r1' hq
                have g18 := (Gr.refl w17).grown nq osq
                obtain ⟨w18, hw18⟩ : ∃ q, q = grow (w17.drewN nq) osq := ⟨_, rfl⟩
                rw [← hw18] at g18 ⊢
                clear hw18
                obtain ⟨aFR, aWR, hfr, aT, aQ, hnb⟩ := HA.out
                have tr : w18.cell? ⟨S + 1 + 1 + 1 + 1, 0, none⟩ = some (.slice va nm vc) := (aT.gr g18).cell 0
                have HA2 := hide (And.intro (aFR.gr g18) (And.intro (below_trans hfr (g18.below _ (by rw [HS.out]; exact hfr.size))) (aQ.gr g18)))
                have HL2 : Hid (∀ i m, ms[i]? = some m → ∃ g : Nat, va = some ⟨g, 0, none⟩ ∧ w18.rangeAt g (i * 99) m) := fun i m hm => by
                  obtain ⟨g, h1, h2⟩ := HL.out i m hm
                  exact ⟨g, h1, rangeAt_gr g18 h2⟩
                clear aFR aWR hfr aT aQ hnb g18 HA HL
                go_wp2_with fail
                clear tr
                have hq : ∀ w, (Op.equalIn 10000 37 (.agg (idV (cidL n1)).toArray) (.agg (idV (cidL n1)).toArray)).run Yba.prog w = .ok true w := fun w => by
                  have := run_eqIds (cidL n1) (cidL n1) hdd hdd w
                  rwa [decide_eq_true rfl] at this
                go_loopg [271] nm (fun gg s271 wr => ∃ i : Nat, s271 = .int .i64 i ∧ i ≤ nm ∧ nm - i ≤ gg ∧ Hid (Gr w18 wr))
                case atStart => exact ⟨0, rfl, Nat.zero_le _, by omega, Gr.refl _⟩
                case round =>
                  obtain ⟨i, rfl, hile, hg1, HG⟩ := hrel
                  by_cases hin : i < nm
                  · have hiz : (i : Int) < (nm : Int) := by omega
                    have hiz0 : (0 : Int) ≤ (i : Int) := by omega
                    obtain ⟨m, hm⟩ : ∃ m, ms[i]? = some m := ⟨_, List.getElem?_eq_getElem (by have := HMs.out.2.1; omega)⟩
                    obtain ⟨r, hr2, hfre, hrn, hmsg⟩ := HMs.out.1 m (List.mem_of_getElem? hm)
                    obtain ⟨g, hva, hrange⟩ := HL2.out i m hm
                    subst hva
                    have hRr : R r = true := by rw [HMs.out.2.2]; unfold frD; simp [hrn, hfre]
                    have L94 := hide (load94 (rangeAt_gr HG.out hrange) hmsg.len)
                    have B := box94 wr m hmsg.len
                    have HT3 := hide B.1
                    have HB := hide B.2
                    have HI := hide (info94s m hmsg.len)
                    have HO := hide (all_oneCell_toArray hmsg.one)
                    have HMg := hide hmsg
                    have HRr := hide hRr
                    clear B hrange hm hfre hmsg hRr
                    go_upto_region 60 with fail
                    go_cut [43] from 273 to 274 (fun s43 wx => ∃ Z : Nat, s43 = .pointer (some ⟨Z, 0, none⟩) ∧ Hid (Gr w18 wx ∧ At wx Z m.toArray 94))
                    case first =>
                      go_wp2_with (first | refine wpList_load_run rfl 94 _ rfl g (i * 99) rfl _ L94.out ?_ | refine wpList_store_mid rfl 94 _ _ rfl wr.heap.size 0 _ rfl rfl HT3.out HI.out HO.out ?_)
                      go_meet
                      exact ⟨_, rfl, HG.out.trans HB.out.1, HB.out.2⟩
                    case rest =>
                      obtain ⟨Z, rfl, HZ⟩ := hcut
                      have c0 : wc.cell? ⟨Z, 0, none⟩ = some (.int .u8 19) := by rw [HZ.out.2.cell, List.getElem?_toArray]; exact HMg.out.kind
                      have c1 : wc.cell? ⟨Z, 1, none⟩ = some (.int .i64 (r : Int)) := by rw [HZ.out.2.cell, List.getElem?_toArray]; exact HMg.out.ring
                      have c79 : wc.cell? ⟨Z, 79, none⟩ = some (.int .u64 stamp) := by rw [HZ.out.2.cell, List.getElem?_toArray]; exact HMg.out.stamp
                      have LK : Hid ((loadVar 37 ⟨Z, 22, none⟩).run Yba.prog wc = .ok (.agg (idV (cidL n1)).toArray) wc) := idload (fun j u hj => by rw [HZ.out.2.cell, List.getElem?_toArray]; exact HMg.out.key j u hj) hdd
                      have LQ : Hid ((loadVar 37 ⟨Q, 0, none⟩).run Yba.prog wc = .ok (.agg (idV (cidL n1)).toArray) wc) := idload (HA2.out.2.2.gr HZ.out.1).all hdd
                      have cf := two_cell (HA2.out.1.gr HZ.out.1) r hr2
                      rw [HRr.out] at cf
                      have hr0 : ¬ ((r : Int) < 0) := by omega
                      have hr0d : decide ((r : Int) < 0) = false := decide_eq_false hr0
                      have hr1 : ¬ ((r : Int) > 1) := by omega
                      have hr1d : decide ((r : Int) > 1) = false := decide_eq_false hr1
                      have hr2z : (r : Int) < 2 := by omega
                      have hr3z : (0 : Int) ≤ (r : Int) := by omega
                      have HG2 := hide HZ.out.1
                      clear L94 HT3 HB HI HO HMg HRr HG HZ
                      go_wp2_with (first | refine wpList_load_want 37 _ rfl Z 22 rfl _ LK.out (by kernel_rfl) ?_ | refine wpList_load_want 37 _ rfl Q 0 rfl _ LQ.out (by kernel_rfl) ?_)
                      go_roundg (nm - (i + 1))
                      case measure => omega
                      case rel => exact ⟨i + 1, by go_num, by omega, Nat.le_refl _, HG2⟩
                  · obtain rfl : nm = i := by omega
                    have hiz : ¬ ((nm : Int) < (nm : Int)) := by omega
                    go_wp2
                    go_ret
                    have h1 := HA2.out.2.1
                    have h2 := below_trans h1 (HG.out.below _ (by rw [HS.out]; exact h1.size))
                    rw [HS.out] at h2
                    exact ⟨rfl, h2⟩
end Go.Proofs.Ybulkapqu
