import Derived.Test.YbulkapquB13
namespace Go.Proofs.Ybulkapqu
open Go.RowKit Go.Sort

def bids (zs : List Int) (n : Nat) : List (List UInt8) := (List.range n).map fun j => bidL (zs.getD j 0)
theorem length_bids (zs : List Int) (n : Nat) : (bids zs n).length = n := by simp [bids]
theorem bids_get (zs : List Int) (n i : Nat) (hi : i < n) : (bids zs n)[i]? = some (bidL (zs.getD i 0)) := by simp [bids, hi]
theorem bids_20 (zs : List Int) (n : Nat) : ∀ l ∈ bids zs n, l.length = 20 := fun l hl => by
  simp only [bids, List.mem_map] at hl
  obtain ⟨j, _, rfl⟩ := hl
  exact length_bidL _
theorem ids_eq (ids : List (List UInt8)) (k r s : Nat) (h20 : ∀ l ∈ ids, l.length = 20) (hk : k < M) (hr : r < ids.length) (hs : s < ids.length) (h : rank k (val ids r) = rank k (val ids s)) : ids.getD r [] = ids.getD s [] := by
  have hl : ∀ i, i < ids.length → (ids.getD i []).length = 20 := fun i hi => by
    rw [List.getD_eq_getElem?_getD, List.getElem?_eq_getElem hi]; exact h20 _ (List.getElem_mem hi)
  have := rank_inj k _ _ hk (beNat_lt20 _ (hl r hr)) (beNat_lt20 _ (hl s hs)) h
  exact beNat_inj _ _ ((hl r hr).trans (hl s hs).symm) this

/-- The best of the first j. -/
def Best (ids : List (List UInt8)) (k j best : Nat) : Prop := best < j ∧ ∀ i, i < j → rank k (val ids best) ≤ rank k (val ids i)

theorem Best.hit {ids : List (List UInt8)} {k j best : Nat} (h : Best ids k j best) (hr : rank k (val ids j) < rank k (val ids best)) : Best ids k (j + 1) j := by
  refine ⟨Nat.lt_succ_self j, fun i hi => ?_⟩
  by_cases e : i = j
  · rw [e]; exact Nat.le_refl _
  · exact Nat.le_trans (Nat.le_of_lt hr) (h.2 i (by omega))
theorem Best.miss {ids : List (List UInt8)} {k j best : Nat} (h : Best ids k j best) (hr : ¬ rank k (val ids j) < rank k (val ids best)) : Best ids k (j + 1) best := by
  refine ⟨Nat.lt_succ_of_lt h.1, fun i hi => ?_⟩
  by_cases e : i = j
  · rw [e]; exact Nat.le_of_not_lt hr
  · exact h.2 i (by omega)
theorem best_start (ids : List (List UInt8)) (k : Nat) : Best ids k 1 0 := ⟨Nat.one_pos, fun i hi => by
  obtain rfl : i = 0 := by omega
  exact Nat.le_refl _⟩

set_option maxHeartbeats 4000000 in
set_option maxRecDepth 1000000 in
theorem tie_main (w : World) (x : Addr) (n cap : Nat) (zs : List Int) (v : Int) (hn0 : 0 < n) (hn : n ≤ 1024) (hnz : n ≤ zs.length) (hc : ∀ i, i < zs.length → w.cell? (x.add i) = some (.int .u16 (zs.getD i 0)))
    (hz : ∀ i, i < zs.length → 0 ≤ zs.getD i 0 ∧ zs.getD i 0 ≤ 65535) (h0 : 0 ≤ v) (h1 : v ≤ 65535) :
    Calls Yba.prog 6 #[.slice (some x) n cap, .int .u16 v] w fun e w' => e = .returned (.bool true) ∧ Below w.heap.size w w' := by
  have mixed : Yba.prog.follows .mixedOrders = true := by kernel_rfl
  have hb : x.block < w.heap.size := by
    have := World.block_lt_of_cell? _ _ (hc 0 (by omega))
    rwa [add_block] at this
  obtain ⟨Z, hZ, hmk⟩ := mk_ids n (by omega)
  obtain ⟨S, hS⟩ : ∃ S, S = w.heap.size := ⟨_, rfl⟩
  obtain ⟨W2, hW2⟩ : ∃ W2, W2 = w.alloc (.cells Z 37) := ⟨_, rfl⟩
  have HJ0 : Hid (FInv w S (bids zs n) n 0 W2) := by rw [hW2, hS]; exact ⟨by rw [fillL_zero]; exact ids_zero w n Z hZ, (Below.refl _ _).alloc (Nat.le_refl _) _⟩
  have hmk1 := hmk w
  rw [← hW2, ← hS] at hmk1
  have HC := hide hc
  have HZ := hide hz
  have HS := hide hS
  have hlen : (bids zs n).length = n := length_bids zs n
  have H20 := hide (bids_20 zs n)
  generalize hbd : bids zs n = ids at *
  have HBD := hide hbd
  clear hbd
  have hnz1 : ¬ ((1024 : Int) < (n : Int)) := by omega
  have hnz0 : ¬ ((n : Int) = 0) := by omega
  have hnz0' : ((n : Int) == 0) = false := by simpa using hnz0
  clear hc hz hZ hS hmk hW2
  go_enter Yba.func6, Yba.ntmps6
  go_wp2
  clear hmk1
  go_loopg [23, 6] n (fun gg s23 s6 wr => ∃ k : Nat, s23 = .int .i64 k ∧ k ≤ n ∧ n - k ≤ gg ∧ Aside (FInv w S ids n k wr))
  case atStart => exact ⟨0, rfl, Nat.zero_le _, by omega, HJ0.out⟩
  case round =>
    clear HJ0
    obtain ⟨k, rfl, hkn, hg, J⟩ := hrel
    by_cases hk : k < n
    · have hkz : (k : Int) < (n : Int) := by omega
      have hkz0 : (0:Int) ≤ (k : Int) := by omega
      obtain ⟨z, hz⟩ : ∃ z, zs.getD k 0 = z := ⟨_, rfl⟩
      have hz01 := HZ.out k (by omega)
      rw [hz] at hz01
      have ck : wr.cell? (x.add k) = some (.int .u16 z) := by rw [J.out.bel.cell (by rw [add_block]; exact hb), HC.out k (by omega), hz]
      obtain ⟨l, hl⟩ : ∃ l, bidL z = l := ⟨_, rfl⟩
      have hl20 : l.length = 20 := hl ▸ length_bidL z
      have hB := bid_calls wr z hz01.1 hz01.2
      rw [hl] at hB
      have HB := hide hB
      have HO := hide (id_one l)
      have HN := hide (id_info hl20)
      have Hz : Hid (ids[k]? = some l) := by rw [← hl, ← hz, ← HBD.out]; exact bids_get zs n k hk
      clear hB hl
      clear hz
      go_wp2_with fail
      refine HB.out.mono ?_
      rintro e w1 ⟨rfl, g1⟩
      have T1 := hide ((J.out.ids.gr g1).there k (by rw [length_fillL _ n k hlen hkn]; exact hk) l hl20)
      have J2 : Aside (FInv w S ids n (k + 1) (w1.setCells S (k * 20) (idV l).toArray.toList)) := J.out.step (by rw [HS.out]; exact Nat.le_refl _) hlen hk l Hz.out hl20 w1 g1
      clear J HB ck g1
      go_wp2_with (first | refine wpList_store_mid rfl 37 _ _ rfl S (k * 20) _ rfl rfl T1.out HN.out HO.out ?_)
      go_roundg (n - (k + 1))
      case measure => omega
      case rel => exact ⟨k + 1, by go_num, by omega, Nat.le_refl _, J2⟩
    · obtain rfl : k = n := by omega
      have I1 : IdsAt wr S ids := by have := J.out.ids; rwa [fillL_all _ k hlen] at this
      have B1 : Below S w wr := by rw [HS.out]; exact J.out.bel
      have hsz : S < wr.heap.size := I1.lt
      clear HC HZ J
      have HNR := hide (newRing_calls wr S k k ids I1 hlen hn0 (by omega))
      have HP : Hid (IdsAt wr S ids ∧ Below S w wr) := ⟨I1, B1⟩
      clear I1 B1
      go_wp2_with fail
      refine HNR.out.mono ?_
      rintro e w2 ⟨R, xs, rfl, hR, b2, rowR, hxl, perm, pw⟩
      have hin' : ∀ y ∈ xs, y < k := fun y hy => by simpa using (perm.mem_iff).1 hy
      obtain ⟨O, hO⟩ : ∃ O, O = w2.heap.size := ⟨_, rfl⟩
      obtain ⟨w3, hw3⟩ : ∃ w3, w3 = w2.alloc (.cells #[.slice (some ⟨S, 0, none⟩) k k, .slice (some ⟨R, 0, none⟩) k k] 28) := ⟨_, rfl⟩
      have G3 : Ring w3 O S R k k k ids xs := by
        rw [hw3, hO]
        exact ⟨by rw [hxl]; exact At.new w2 _ _, (HP.out.1.of_heap (b2.block _ HP.out.1.lt)).alloc _, ⟨[], by simpa using rowR.alloc _, by simp [hxl]⟩, hlen, hin'⟩
      have B3 : Below S w w3 := by
        have h := HP.out.2.trans (b2.mono (by omega))
        rw [hw3]
        exact h.alloc (by have := h.size; have := HS.out; omega) _
      obtain ⟨lk, hlk'⟩ : ∃ lk, bidL v = lk := ⟨_, rfl⟩
      have hlk : lk.length = 20 := hlk' ▸ length_bidL v
      have hKB := bid_calls w3 v h0 h1
      rw [hlk'] at hKB
      have HKB := hide hKB
      clear hlk' hKB
      have HQ3 : Hid (Ring w3 O S R k k k ids xs ∧ Below S w w3 ∧ xs.Perm (List.range k) ∧ xs.length = k ∧ xs.Pairwise (fun a b => val ids a ≤ val ids b)) := ⟨G3, B3, perm, hxl, pw⟩
      have HW3 := hide hw3
      have HOe := hide hO
      clear hin' hR b2 rowR hxl perm pw G3 B3 hO hw3 HNR HP
      go_upto_region 12 with fail
      rw [← HW3.out, ← HOe.out]
      clear HW3 HOe
      go_wp2_with fail
      refine HKB.out.mono ?_
      rintro e w4 ⟨rfl, g4⟩
      obtain ⟨K, hK⟩ : ∃ K, K = w4.heap.size := ⟨_, rfl⟩
      obtain ⟨w4a, hw4⟩ : ∃ w4a, w4a = w4.alloc (.cells zeroA 37) := ⟨_, rfl⟩
      have Z4 : At w4a K zeroA 37 := by rw [hw4, hK]; exact At.new w4 _ _
      obtain ⟨w5, hw5⟩ : ∃ w5, w5 = w4a.setCells K 0 (idV lk).toArray.toList := ⟨_, rfl⟩
      have K5 : At w5 K (idV lk).toArray 37 := by rw [hw5]; exact Z4.zput hlk
      have g5 : Gr w3 w5 := g4.trans (by rw [hw5, hw4]; exact Gr.setCells K (by omega) _ _ _ ((Gr.refl w4).alloc _))
      have G5 := HQ3.out.1.gr g5
      have T4 := hide (Z4.zthere hlk)
      have HO := hide (id_one lk)
      have HN := hide (id_info hlk)
      have L5 := hide (idload K5.all hlk)
      have HRT := hide (root_calls w5 O S R k k k ids xs G5 (by rw [HQ3.out.2.2.2.1]; exact hn0) (by rw [HQ3.out.2.2.2.1]; omega) HQ3.out.2.2.2.2 lk hlk)
      have HQ : Hid (Ring w5 O S R k k k ids xs ∧ At w5 K (idV lk).toArray 37 ∧ Below S w w5 ∧ xs.Perm (List.range k)) := ⟨G5, K5, HQ3.out.2.1.trans (g5.below S (by have := HQ3.out.2.1.size; have := HS.out; omega)), HQ3.out.2.2.1⟩
      have HW4 := hide hw4
      have HW5 := hide hw5
      have HKe := hide hK
      have HZ := hide zeroA_eq
      clear Z4 K5 g5 G5 hK hw4 hw5 HQ3 HKB g4
      go_upto_region 13 with (first | (rw [← HZ.out, ← HW4.out, ← HKe.out]; refine wpList_store_mid rfl 37 _ _ rfl K 0 _ rfl rfl T4.out HN.out HO.out ?_))
      rw [show w4a.setCells K 0 (idV lk) = w5 from HW5.out.symm]
      clear HW4 HW5 HKe T4 HO HN
      go_wp2_with (first | refine wpList_load_run rfl 37 _ rfl K 0 rfl _ L5.out ?_)
      refine HRT.out.mono ?_
      rintro e w6 ⟨⟨r, rfl, hrx, hrk⟩, g6⟩
      have hrn : r < k := HQ.out.1.hin r hrx
      have HN6 : Hid (NS w6 S K ids lk w6) := ⟨Gr.refl _, HQ.out.1.hI.gr g6, HQ.out.2.1.gr g6⟩
      have HB6 : Hid (Below S w w6) := HQ.out.2.2.1.trans (g6.below S (by have := HQ.out.2.2.1.size; have := HS.out; omega))
      have HRK : Hid (∀ x, x < k → rank (Lib.beNat lk) (val ids r) ≤ rank (Lib.beNat lk) (val ids x)) := fun x hx => hrk x (HQ.out.2.2.2.mem_iff.2 (List.mem_range.2 hx))
      have hr0 : ¬ ((r : Int) < 0) := by omega
      have hr1 : ¬ ((k : Int) ≤ (r : Int)) := by omega
      have hr2 : (0 : Int) ≤ (r : Int) := by omega
      have hr3 : (r : Int) < (k : Int) := by omega
      clear hrk g6 HQ HRT L5 hrx
      go_upto_region 16 with fail
      go_cut [10] (fun s10 wx => s10 = .int .i64 0 ∧ wx = w6)
      case first =>
        go_wp2
        go_meet
        exact ⟨rfl, rfl⟩
      case rest =>
       obtain ⟨rfl, rfl⟩ := hcut
       go_wp2
       go_loopg [11, 10] k (fun gg s11 s10 wr => ∃ j best : Nat, s11 = .int .i64 j ∧ s10 = .int .i64 best ∧ j ≤ k ∧ k - j ≤ gg ∧ best < j ∧ Aside (Best ids (Lib.beNat lk) j best) ∧ Aside (Gr wc wr))
       case atStart => exact ⟨1, 0, rfl, rfl, by omega, by omega, by omega, best_start _ _, Gr.refl wc⟩
       case round =>
         obtain ⟨j, best, rfl, rfl, hjn, hg2, hbj, JB, J3⟩ := hrel
         by_cases hj : j < k
         · have hjz : (j : Int) < (k : Int) := by omega
           have hjz0 : (0:Int) ≤ (j : Int) := by omega
           have hbz : (best : Int) < (k : Int) := by omega
           have hbz0 : (0:Int) ≤ (best : Int) := by omega
           obtain ⟨lj, hlj⟩ : ∃ lj, ids[j]? = some lj := ⟨_, List.getElem?_eq_getElem (by omega)⟩
           obtain ⟨lb, hlb⟩ : ∃ lb, ids[best]? = some lb := ⟨_, List.getElem?_eq_getElem (by omega)⟩
           have hlj20 := H20.out lj (List.mem_of_getElem? hlj)
           have hlb20 := H20.out lb (List.mem_of_getElem? hlb)
           have hvj : val ids j = Lib.beNat lj := by rw [val, getD_of hlj]
           have hvb : val ids best = Lib.beNat lb := by rw [val, getD_of hlb]
           have hnv := near_val lk lj lb hlk hlj20 hlb20
           rw [← hvj, ← hvb] at hnv
           have LK := hide (fun p os => idload (((HN6.out.step (J3.out.grown p os)).hK).all) hlk)
           have LJ := hide (fun p os => idload ((HN6.out.step (J3.out.grown p os)).hI.row j lj hlj) hlj20)
           have LB := hide (fun p os => idload ((HN6.out.step (J3.out.grown p os)).hI.row best lb hlb) hlb20)
           have hnc := fun p os => near_calls (grow (wr.drewN p) os) lk lj lb hlk hlj20 hlb20
           generalize nearL lk lj lb = nb at hnc hnv
           have HNC := hide hnc
           have HNV := hide hnv
           clear hvj hvb hlj hlb hnc hnv hr0 hr1 hr2 hr3 hrn HRK
           go_wp2_with fail
           refine wp_region_quiet_grown (by assumption) (by kernel_rfl) ?_
           refine wpQuiet_load_mid rfl 37 _ rfl _ _ rfl _ (fun w' hw' => by obtain ⟨p, rfl⟩ := hw'; exact LK.out _ _) ?_
           iterate 3 quiet_step (fail)
           refine wpQuiet_load_mid rfl 37 _ rfl _ _ rfl _ (fun w' hw' => by obtain ⟨p, rfl⟩ := hw'; exact LJ.out _ _) ?_
           iterate 3 quiet_step (fail)
           refine wpQuiet_load_mid rfl 37 _ rfl _ _ rfl _ (fun w' hw' => by obtain ⟨p, rfl⟩ := hw'; exact LB.out _ _) ?_
           quiet_step ((go_at_call 19; refine Calls.grown_of' (HNC.out _ _)))
           refine wpQuiet_nil ?_
           intro _ hw'
           obtain ⟨⟨nq, osq⟩, hw''⟩ := hw'
           subst hw''
           have J4 : Aside (Gr wc (grow (wr.drewN nq) osq)) := J3.out.grown nq osq
           clear J3 LJ LK LB HNC
           cases nb with
           | true =>
             have JB2 : Aside (Best ids (Lib.beNat lk) (j + 1) j) := JB.out.hit (of_decide_eq_true HNV.out.symm)
             clear JB HNV
             go_wp2
             go_roundg (k - (j + 1))
             case measure => omega
             case rel => exact ⟨j + 1, j, by go_num, rfl, by omega, Nat.le_refl _, by omega, JB2, J4⟩
           | false =>
             have JB2 : Aside (Best ids (Lib.beNat lk) (j + 1) best) := JB.out.miss (of_decide_eq_false HNV.out.symm)
             clear JB HNV
             go_wp2
             go_roundg (k - (j + 1))
             case measure => omega
             case rel => exact ⟨j + 1, best, by go_num, rfl, by omega, Nat.le_refl _, by omega, JB2, J4⟩
         · obtain rfl : j = k := by omega
           have hbz : (best : Int) < (j : Int) := by omega
           have hbz0 : (0:Int) ≤ (best : Int) := by omega
           have heq := ids_eq ids (Lib.beNat lk) r best H20.out (beNat_lt20 lk hlk) (by omega) (by omega) (Nat.le_antisymm (HRK.out best hbj) (JB.out.2 r hrn))
           obtain ⟨lr, hlr⟩ : ∃ lr, ids[r]? = some lr := ⟨_, List.getElem?_eq_getElem (by omega)⟩
           have hlb : ids[best]? = some lr := by
             have h1 : ids[best]? = some (ids.getD best []) := by rw [List.getD_eq_getElem?_getD, List.getElem?_eq_getElem (by omega)]; rfl
             rw [h1, ← heq, getD_of hlr]
           have hlr20 := H20.out lr (List.mem_of_getElem? hlr)
           have LR := hide (fun p os => idload ((HN6.out.step (J3.out.grown p os)).hI.row r lr hlr) hlr20)
           have LB := hide (fun p os => idload ((HN6.out.step (J3.out.grown p os)).hI.row best lr hlb) hlr20)
           clear heq hlr hlb JB HRK
           go_wp2_with fail
           refine wp_region_quiet_grown (by assumption) (by kernel_rfl) ?_
           iterate 3 quiet_step (fail)
           refine wpQuiet_load_mid rfl 37 _ rfl _ _ rfl _ (fun w' hw' => by obtain ⟨p, rfl⟩ := hw'; exact LR.out _ _) ?_
           iterate 3 quiet_step (fail)
           refine wpQuiet_load_mid rfl 37 _ rfl _ _ rfl _ (fun w' hw' => by obtain ⟨p, rfl⟩ := hw'; exact LB.out _ _) ?_
           simp only [Act.put, List.setIfInBounds_toArray, List.set_cons_zero, List.set_cons_succ]
           go_big_quiet_want
           refine quiet_eql37 _ _ rfl lr lr rfl rfl hlr20 hlr20 ?_
           rw [decide_eq_true rfl]
           simp only [Act.put, List.setIfInBounds_toArray, List.set_cons_zero, List.set_cons_succ]
           go_big_quiet_on
           quiet_step (fail)
           refine wpQuiet_nil ?_
           intro _ hw'
           obtain ⟨⟨nq, osq⟩, hw''⟩ := hw'
           subst hw''
           have HB : Hid (Below w.heap.size w (grow (wr.drewN nq) osq)) := by
             show Below _ _ _
             rw [← HS.out]
             exact HB6.out.trans ((J3.out.grown nq osq).below S (by have := HB6.out.size; have := HS.out; omega))
           clear J3 LR LB
           go_wp2
           go_ret
           exact ⟨rfl, HB.out⟩
end Go.Proofs.Ybulkapqu
