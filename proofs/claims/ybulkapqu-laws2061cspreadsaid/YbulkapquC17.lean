import Derived.Test.YbulkapquC16
namespace Go.Proofs.Ybulkapqu
open Go.RowKit Go.Sort

set_option maxRecDepth 100000 in
theorem built110z : Yba.prog.built 110 [] = some (peerV (List.replicate 20 0)).toArray := by kernel_rfl
/-- What the walk holds: the key, the result, the best so far. -/
structure NM (w : World) (X : Nat) (key b : List UInt8) (W : World) : Prop where
  gr : Gr w W
  hK : At W w.heap.size (idV key).toArray 37
  hR : At W (w.heap.size + 1) zeroP 110
  hB : At W X (peerV b).toArray 110
  hX : w.heap.size + 1 < X
  h20 : b.length = 20
theorem NM.step {w : World} {X : Nat} {key b : List UInt8} {W W' : World} (h : NM w X key b W) (g : Gr W W') : NM w X key b W' := ⟨h.gr.trans g, h.hK.gr g, h.hR.gr g, h.hB.gr g, h.hX, h.h20⟩
theorem NM.put {w : World} {X : Nat} {key b : List UInt8} {W : World} (h : NM w X key b W) (l : List UInt8) (hl : l.length = 20) : NM w X key l (W.setCells X 0 (peerV l).toArray.toList) :=
  ⟨Gr.setCells _ (by have := h.hX; omega) _ _ _ h.gr, h.hK.of_heap (heap_setCells_other _ _ (by have := h.hX; omega) _ _ _), h.hR.of_heap (heap_setCells_other _ _ (by have := h.hX; omega) _ _ _), h.hB.pput h.h20 hl, h.hX, hl⟩

set_option maxRecDepth 100000 in
theorem run_side0 (a b c d : Value) (w : World) : (Instr.index 198 (.agg #[a, b, c, d]) (.int .i64 0)).run Yba.prog w = .ok (.agg #[a, b]) w := by kernel_rfl
set_option maxRecDepth 100000 in
theorem run_side1 (a b c d : Value) (w : World) : (Instr.index 198 (.agg #[a, b, c, d]) (.int .i64 1)).run Yba.prog w = .ok (.agg #[c, d]) w := by kernel_rfl

set_option maxHeartbeats 4000000 in
set_option maxRecDepth 1000000 in
theorem nearestMember_calls (w : World) (v : Value) (ids : List (List UInt8)) (b o cap : Nat) (hp : PeersAt w v ids b o cap) (hlen : ids.length ≤ 100000) (key : List UInt8) (hkey : key.length = 20) (p1 p2 p3 : Value) (skip : List UInt8 → Bool)
    (hc : ∀ W, Gr w W → ∀ l ∈ ids, Calls Yba.prog 104 #[.agg (idV l).toArray, p1, p2, p3] W fun e w' => e = .returned (.bool (skip l)) ∧ Gr W w') :
    Calls Yba.prog 81 #[v, .agg (idV key).toArray, .func (.func 104) #[] #[p1, p2, p3]] w fun e w' => (∃ (l' : List UInt8) (f : Bool), l'.length = 20 ∧ e = .returned (.tuple #[.agg (peerV l').toArray, .bool f])) ∧ Gr w w' := by
  obtain ⟨S, hS⟩ : ∃ S, S = w.heap.size := ⟨_, rfl⟩
  obtain ⟨w1, hw1⟩ : ∃ w1, w1 = (w.alloc (.cells (idV key).toArray 37)).alloc (.cells zeroP 110) := ⟨_, rfl⟩
  have g1 : Gr w w1 := by rw [hw1]; exact ((Gr.refl w).alloc _).alloc _
  have s1 : w1.heap.size = S + 1 + 1 := by rw [hw1, World.size_alloc, World.size_alloc, hS]
  have aK : At w1 S (idV key).toArray 37 := by rw [hw1, hS]; exact (At.new w _ _).alloc _
  have aR : At w1 (S + 1) zeroP 110 := by
    have := At.new (w.alloc (.cells (idV key).toArray 37)) zeroP 110
    rw [World.size_alloc, ← hS] at this
    rw [hw1]; exact this
  have HB := hide (bsfB_calls w1 v ids b o cap (hp.gr g1) hlen key hkey (fun l => Lib.compareBytes l key) (fun W hW l hl => near1_calls W l key (hp.len l hl) hkey))
  obtain ⟨va, n, vc, rfl⟩ : ∃ a n c, v = .slice a n c := by
    rcases hp.val with h | ⟨h, _⟩
    · exact ⟨_, _, _, h⟩
    · exact ⟨_, _, _, h⟩
  have hn : ids.length = n := by
    rcases hp.val with h | ⟨h, h'⟩
    · injection h with _ h2 _; rw [h2]
    · injection h with _ h2 _; rw [h2, h']; rfl
  rw [hn] at HB
  have hn2 : n ≤ 100000 := by omega
  have HNn := hide hn
  have HP := hide hp
  have HC := hide hc
  have LK := hide (idload aK.all hkey)
  have HF : Hid (Gr w w1 ∧ At w1 S (idV key).toArray 37 ∧ At w1 (S + 1) zeroP 110 ∧ w1.heap.size = S + 1 + 1) := ⟨g1, aK, aR, s1⟩
  have HW := hide hw1
  have HS := hide hS
  have HZ := hide zeroP_eq
  have HBz := hide built110z
  clear hw1 hS g1 aK aR s1 hp hc hn
  go_enter Yba.func81, Yba.ntmps81
  go_upto_region 1 with fail
  rw [← HZ.out, ← HW.out, ← HS.out]
  go_wp2_with (first | refine wpList_load_run rfl 37 _ rfl S 0 rfl _ LK.out ?_)
  refine HB.out.mono ?_
  rintro e w2 ⟨⟨i, q, hi, rfl⟩, g2⟩
  obtain ⟨X, hX⟩ : ∃ X, X = w2.heap.size := ⟨_, rfl⟩
  obtain ⟨w3, hw3⟩ : ∃ w3, w3 = w2.alloc (.cells zeroP 110) := ⟨_, rfl⟩
  obtain ⟨z20, hz20⟩ : ∃ z, z = List.replicate 20 (0 : UInt8) := ⟨_, rfl⟩
  have hzl : z20.length = 20 := by rw [hz20]; rfl
  have a3 : At w3 X (peerV z20).toArray 110 := by rw [hw3, hX, hz20]; exact At.new w2 _ _
  obtain ⟨w4, hw4⟩ : ∃ w4, w4 = w3.setCells X 0 (peerV z20).toArray.toList := ⟨_, rfl⟩
  have g4 : Gr w1 w4 := g2.trans (by rw [hw4, hw3]; exact Gr.setCells X (by rw [hX]; exact Nat.le_refl _) _ _ _ ((Gr.refl w2).alloc _))
  have J0 : NM w X key z20 w4 := by
    obtain ⟨f1, f2, f3, f4⟩ := HF.out
    refine ⟨f1.trans g4, ?_, ?_, ?_, ?_, hzl⟩
    · rw [← HS.out]; exact f2.gr g4
    · rw [← HS.out]; exact f3.gr g4
    · rw [hw4]; exact a3.pput hzl hzl
    · have := g2.size; rw [← HS.out]; omega
  have T3 := hide (a3.pthere hzl hzl)
  have HO := hide (peer_one z20)
  have HN := hide (peer_info hzl)
  rw [← hz20] at HBz
  have HX := hide hX
  have HW3 := hide hw3
  have HW4 := hide hw4
  clear g2 hX hw3 hw4 a3 g4 HF HB LK hz20
  go_upto_region 4 with (first | refine wpList_build_run rfl 110 _ rfl [] (by simp) _ HBz.out ?_ | (rw [← HZ.out, ← HW3.out, ← HX.out]; refine wpList_store_mid rfl 110 _ _ rfl X 0 _ rfl rfl T3.out HN.out HO.out ?_))
  rw [show w3.setCells X 0 (peerV z20) = w4 from HW4.out.symm]
  clear HX HW3 HW4 T3 HO HN HBz
  have hwi : IntKind.i64.wrap ((i : Int) - 1) = (i : Int) - 1 := by rw [IntKind.wrap_i64]; omega
  go_wp2
  go_loopg [32, 12, 14, 15, 16] 2 (fun gg s32 s12 s14 s15 s16 wr => ∃ d : Nat, s32 = .int .i64 d ∧ d ≤ 2 ∧ 2 - d ≤ gg ∧ ∃ bl f, s12 = .bool f ∧ Aside (NM w X key bl wr))
  case atStart => exact ⟨0, rfl, Nat.zero_le _, by omega, z20, false, rfl, J0⟩
  case round =>
    clear J0
    obtain ⟨d, rfl, hd2, hg, bl, f, rfl, J⟩ := hrel
    by_cases h2 : d < 2
    · obtain ⟨F, st, hF0, hF1, hst, hrun⟩ : ∃ F st : Int, -1 ≤ F ∧ F ≤ (n : Int) ∧ (st = 1 ∨ st = -1) ∧ ∀ w, (Instr.index 198 (.agg #[.int .i64 (i : Int), .int .i64 1, .int .i64 ((i : Int) - 1), .int .i64 (-1)]) (.int .i64 (d : Int))).run Yba.prog w = .ok (.agg #[.int .i64 F, .int .i64 st]) w := by
        by_cases h0 : d = 0
        · subst h0
          exact ⟨_, _, by omega, by omega, .inl rfl, run_side0 _ _ _ _⟩
        · obtain rfl : d = 1 := by omega
          exact ⟨_, _, by omega, by omega, .inr rfl, run_side1 _ _ _ _⟩
      have hdz : (d : Int) < 2 := by omega
      have hdz0 : (0 : Int) ≤ (d : Int) := by omega
      obtain ⟨G, hG⟩ : ∃ G, G = wr.heap.size := ⟨_, rfl⟩
      obtain ⟨wg, hwg⟩ : ∃ wg, wg = wr.alloc (.cells #[.int .i64 F, .int .i64 st] 197) := ⟨_, rfl⟩
      have J1 : Aside (NM w X key bl wg ∧ At wg G #[.int .i64 F, .int .i64 st] 197) := ⟨by rw [hwg]; exact J.out.step ((Gr.refl wr).alloc _), by rw [hwg, hG]; exact At.new wr _ _⟩
      have HGe := hide hG
      have HWg := hide hwg
      clear hG hwg J
      go_wp2
      rw [← HWg.out, ← HGe.out]
      clear HWg HGe hrun
      go_loopg [36, 12, 15, 16] n (fun gg s36 s12 s15 s16 wr => ∃ k : Nat, s36 = .int .i64 k ∧ k ≤ n ∧ n - k ≤ gg ∧ ∃ bl f, s12 = .bool f ∧ Aside (NM w X key bl wr ∧ At wr G #[.int .i64 F, .int .i64 st] 197))
      case atStart => exact ⟨0, rfl, Nat.zero_le _, by omega, bl, f, rfl, J1⟩
      case round =>
        clear J1
        obtain ⟨k, rfl, hkn, hg2, bl, f, rfl, J⟩ := hrel
        by_cases hk : k < n
        · have hkz : (k : Int) < (n : Int) := by omega
          have hkz0 : (0:Int) ≤ (k : Int) := by omega
          have G0 := J.out.2.cell 0
          have G1 := J.out.2.cell 1
          simp at G0 G1
          obtain ⟨P, hP⟩ : ∃ P, (k : Int) * st = P := ⟨_, rfl⟩
          have hPb : -(n : Int) ≤ P ∧ P ≤ (n : Int) := by rw [← hP]; rcases hst with rfl | rfl <;> omega
          obtain ⟨A, hA⟩ : ∃ A, F + P = A := ⟨_, rfl⟩
          obtain ⟨R1, hR1⟩ : ∃ R, A.tmod (n : Int) = R := ⟨_, rfl⟩
          have hR1b : -(n : Int) < R1 ∧ R1 < (n : Int) := by
            have hnp : (0 : Int) < (n : Int) := by omega
            have h1 := Int.tmod_lt_of_pos A hnp
            have h2 := Int.lt_tmod_of_pos A hnp
            rw [hR1] at h1 h2
            exact ⟨h2, h1⟩
          obtain ⟨R2, hR2⟩ : ∃ R, R1 + (n : Int) = R := ⟨_, rfl⟩
          have hR2b : 0 < R2 := by omega
          obtain ⟨j, hj⟩ : ∃ j : Nat, R2.tmod (n : Int) = (j : Int) := ⟨(R2.tmod (n : Int)).toNat, by have := Int.tmod_nonneg (n : Int) (show 0 ≤ R2 by omega); omega⟩
          have hjn : (j : Int) < (n : Int) := by rw [← hj]; exact Int.tmod_lt_of_pos R2 (by omega)
          have hj0 : (0 : Int) ≤ (j : Int) := by omega
          have hwP : IntKind.i64.wrap P = P := by rw [IntKind.wrap_i64]; omega
          have hwA : IntKind.i64.wrap A = A := by rw [IntKind.wrap_i64]; omega
          have hwR : IntKind.i64.wrap R2 = R2 := by rw [IntKind.wrap_i64]; omega
          have hn0 : ¬ n = 0 := by omega
          obtain ⟨l, hl⟩ : ∃ l, ids[j]? = some l := ⟨_, List.getElem?_eq_getElem (by have := HNn.out; omega)⟩
          have hmem := List.mem_of_getElem? hl
          have hl20 := HP.out.len l hmem
          obtain rfl : va = some ⟨b, o, none⟩ := by
            rcases HP.out.val with h | ⟨_, h'⟩
            · injection h with h1 _ _
            · rw [h'] at hl; simp at hl
          obtain ⟨Y, hY⟩ : ∃ Y, Y = wr.heap.size := ⟨_, rfl⟩
          obtain ⟨wa, hwa⟩ : ∃ wa, wa = wr.alloc (.cells zeroP 110) := ⟨_, rfl⟩
          have aY : At wa Y (peerV (List.replicate 20 0)).toArray 110 := by rw [hwa, hY]; exact At.new wr _ _
          obtain ⟨wb, hwb⟩ : ∃ wb, wb = wa.setCells Y 0 (peerV l).toArray.toList := ⟨_, rfl⟩
          have aY2 : At wb Y (peerV l).toArray 110 := by rw [hwb]; exact aY.pput (by simp) hl20
          have gb : Gr wr wb := by rw [hwb, hwa]; exact Gr.setCells _ (by omega) _ _ _ ((Gr.refl wr).alloc _)
          have Jb : NM w X key bl wb ∧ At wb G #[.int .i64 F, .int .i64 st] 197 := ⟨J.out.1.step gb, J.out.2.gr gb⟩
          have L1 := hide (peerload (rangeAt_gr J.out.1.gr (HP.out.row j l hl)) hl20)
          have TX := hide (aY.pthere (by simp) hl20)
          have HOl := hide (peer_one l)
          have HNl := hide (peer_info hl20)
          have LY : Hid (∀ W, Gr wb W → (loadVar 37 ⟨Y, 0, none⟩).run Yba.prog W = .ok (.agg (idV l).toArray) W) := fun W hW => idload (range_pre (aY2.gr hW).pall) hl20
          have LK2 : Hid (∀ W, Gr wb W → (loadVar 37 ⟨S, 0, none⟩).run Yba.prog W = .ok (.agg (idV key).toArray) W) := fun W hW => by
            rw [HS.out]; exact idload (Jb.1.step hW).hK.all hkey
          have LB : Hid (∀ W, Gr wb W → (loadVar 37 ⟨X, 0, none⟩).run Yba.prog W = .ok (.agg (idV bl).toArray) W) := fun W hW => idload (range_pre (Jb.1.step hW).hB.pall) Jb.1.h20
          have LP : Hid (∀ W, Gr wb W → (loadVar 110 ⟨Y, 0, none⟩).run Yba.prog W = .ok (.agg (peerV l).toArray) W) := fun W hW => peerload (aY2.gr hW).pall hl20
          have HC2 : Hid (∀ W, Gr wb W → Calls Yba.prog 104 #[.agg (idV l).toArray, p1, p2, p3] W fun e w' => e = .returned (.bool (skip l)) ∧ Gr W w') := fun W hW => HC.out W (Jb.1.gr.trans hW) l hmem
          have HN19 : Hid (∀ W, Calls Yba.prog 19 #[.agg (idV key).toArray, .agg (idV l).toArray, .agg (idV bl).toArray] W fun e w' => e = .returned (.bool (nearL key l bl)) ∧ Gr W w') := fun W => near_calls W key l bl hkey hl20 Jb.1.h20
          have HJb := hide Jb
          have HY := hide hY
          have HWa := hide hwa
          have HWb := hide hwb
          generalize skip l = sk at HC2
          generalize nearL key l bl = nb at HN19
          clear hl hmem aY aY2 gb Jb hY hwa hwb J hPb hR1b
          go_upto_region 11 with (first | refine wpList_load_run rfl 110 _ rfl b (o + j * 24) rfl _ L1.out ?_ | (rw [← HZ.out, ← HWa.out, ← HY.out]; refine wpList_store_mid rfl 110 _ _ rfl Y 0 _ rfl rfl TX.out HNl.out HOl.out ?_))
          rw [show wa.setCells Y 0 (peerV l) = wb from HWb.out.symm]
          clear L1 TX HWa HWb HY G0 G1 hP hA hR1 hR2 hj
          have gw : Gr wb wb := Gr.refl wb
          cases sk with
          | true =>
            go_wp2_with (first | refine wpList_load_run rfl 37 _ rfl Y 0 rfl _ (LY.out _ (by assumption)) ?_ | refine wpList_load_want 37 _ rfl S 0 rfl _ (LK2.out _ (by assumption)) (by kernel_rfl) ?_ | refine wpList_load_want 37 _ rfl Y 0 rfl _ (LY.out _ (by assumption)) (by kernel_rfl) ?_ | refine wpList_load_want 37 _ rfl X 0 rfl _ (LB.out _ (by assumption)) (by kernel_rfl) ?_)
            refine (HC2.out _ gw).mono ?_
            rintro e w5 ⟨rfl, g5⟩
            have JN : Aside (NM w X key bl w5 ∧ At w5 G #[.int .i64 F, .int .i64 st] 197) := ⟨HJb.out.1.step (gw.trans g5), HJb.out.2.gr (gw.trans g5)⟩
            clear HC2 HN19 LY LK2 LB LP HJb gw g5
            go_wp2
            go_roundg (n - (k + 1))
            case measure => omega
            case rel => exact ⟨k + 1, by go_num, by omega, Nat.le_refl _, bl, f, rfl, JN⟩
          | false =>
            go_wp2_with (first | refine wpList_load_run rfl 37 _ rfl Y 0 rfl _ (LY.out _ (by assumption)) ?_ | refine wpList_load_want 37 _ rfl S 0 rfl _ (LK2.out _ (by assumption)) (by kernel_rfl) ?_ | refine wpList_load_want 37 _ rfl Y 0 rfl _ (LY.out _ (by assumption)) (by kernel_rfl) ?_ | refine wpList_load_want 37 _ rfl X 0 rfl _ (LB.out _ (by assumption)) (by kernel_rfl) ?_)
            refine (HC2.out _ gw).mono ?_
            rintro e w5 ⟨rfl, g5⟩
            have gw5 := gw.trans g5
            clear gw g5
            have gw := gw5
            clear gw5
            cases f with
            | false =>
              have hJ6 := HJb.out.1.step gw
              have JN : Aside (NM w X key l (w5.setCells X 0 (peerV l).toArray.toList)) := hJ6.put l hl20
              have TB := hide (hJ6.hB.pthere hJ6.h20 hl20)
              have LP6 := hide (LP.out _ gw)
              clear HC2 HN19 LY LK2 LB LP HJb hJ6 gw
              go_wp2_with (first | refine wpList_load_run rfl 110 _ rfl Y 0 rfl _ LP6.out ?_ | refine wpList_store_mid rfl 110 _ _ rfl X 0 _ rfl rfl TB.out HNl.out HOl.out ?_)
              go_roundg (2 - (d + 1))
              case measure => omega
              case rel => exact ⟨d + 1, by go_num, by omega, Nat.le_refl _, l, true, rfl, JN⟩
            | true =>
              go_wp2_with (first | refine wpList_load_run rfl 37 _ rfl Y 0 rfl _ (LY.out _ (by assumption)) ?_ | refine wpList_load_want 37 _ rfl S 0 rfl _ (LK2.out _ (by assumption)) (by kernel_rfl) ?_ | refine wpList_load_want 37 _ rfl Y 0 rfl _ (LY.out _ (by assumption)) (by kernel_rfl) ?_ | refine wpList_load_want 37 _ rfl X 0 rfl _ (LB.out _ (by assumption)) (by kernel_rfl) ?_)
              refine (HN19.out _).mono ?_
              rintro e w6 ⟨rfl, g6⟩
              have gw6 := gw.trans g6
              clear gw g6
              have gw := gw6
              clear gw6
              cases nb with
              | false =>
                have JN : Aside (NM w X key bl w6) := HJb.out.1.step gw
                clear HC2 HN19 LY LK2 LB LP HJb gw
                go_wp2
                go_roundg (2 - (d + 1))
                case measure => omega
                case rel => exact ⟨d + 1, by go_num, by omega, Nat.le_refl _, bl, true, rfl, JN⟩
              | true =>
                have hJ6 := HJb.out.1.step gw
                have JN : Aside (NM w X key l (w6.setCells X 0 (peerV l).toArray.toList)) := hJ6.put l hl20
                have TB := hide (hJ6.hB.pthere hJ6.h20 hl20)
                have LP6 := hide (LP.out _ gw)
                clear HC2 HN19 LY LK2 LB LP HJb hJ6 gw
                go_wp2_with (first | refine wpList_load_run rfl 110 _ rfl Y 0 rfl _ LP6.out ?_ | refine wpList_store_mid rfl 110 _ _ rfl X 0 _ rfl rfl TB.out HNl.out HOl.out ?_)
                go_roundg (2 - (d + 1))
                case measure => omega
                case rel => exact ⟨d + 1, by go_num, by omega, Nat.le_refl _, l, true, rfl, JN⟩
        · obtain rfl : k = n := by omega
          have JN : Aside (NM w X key bl wr) := J.out.1
          clear J
          go_wp2
          go_roundg (2 - (d + 1))
          case measure => omega
          case rel => exact ⟨d + 1, by go_num, by omega, Nat.le_refl _, bl, f, rfl, JN⟩
    · obtain rfl : d = 2 := by omega
      have hbl := J.out.h20
      have LBe := hide (peerload J.out.hB.pall hbl)
      have TR := hide (At.pthere (l0 := List.replicate 20 0) J.out.hR (by simp) hbl)
      have FR := hide (At.pput (l0 := List.replicate 20 0) J.out.hR (by simp) hbl)
      have gR : Hid (Gr w (wr.setCells (w.heap.size + 1) 0 (peerV bl).toArray.toList)) := Gr.setCells _ (by omega) _ _ _ J.out.gr
      rw [← HS.out] at TR FR gR
      have HOb := hide (peer_one bl)
      have HNb := hide (peer_info hbl)
      clear J
      go_wp2_with (first | refine wpList_load_run rfl 110 _ rfl X 0 rfl _ LBe.out ?_ | refine wpList_store_mid rfl 110 _ _ rfl (S + 1) 0 _ rfl rfl TR.out HNb.out HOb.out ?_)
      refine bodyPost_ret_by (results_cell_slot (P := Yba.prog) (p := 6) (u := 7) (ty := 110) rfl _ _ (S + 1) 110 (peerV bl).toArray _ _ rfl FR.out Yba.underlying110 rfl HNb.out) rfl ?_
      refine ⟨⟨bl, hbl, ?_⟩, gR.out⟩
      cases f with
      | false => exact .inl rfl
      | true => exact .inr rfl
end Go.Proofs.Ybulkapqu
