import Derived.Test.YbulkapquB11
import Derived.Test.YbulkapquB12
namespace Go.Proofs.Ybulkapqu
open Go.RowKit Go.Sort

theorem idload36 {w : World} {B o : Nat} {l : List UInt8} (h : w.rangeAt B o (idV l)) (hl : l.length = 20) : (loadVar 36 ⟨B, o, none⟩).run Yba.prog w = .ok (.agg (idV l).toArray) w :=
  run_loadVar_mid _ B o 36 (idV l) (.array 20 5) h (by kernel_rfl) rfl (by rw [length_idV, hl]; kernel_rfl)

def fillL (ls : List (List UInt8)) (n k : Nat) : List (List UInt8) := ls.take k ++ List.replicate (n - k) zero20
theorem fillL_zero (ls : List (List UInt8)) (n : Nat) : fillL ls n 0 = List.replicate n zero20 := by simp [fillL]
theorem fillL_all (ls : List (List UInt8)) (n : Nat) (h : ls.length = n) : fillL ls n n = ls := by simp [fillL, ← h]
theorem length_fillL (ls : List (List UInt8)) (n k : Nat) (h : ls.length = n) (hk : k ≤ n) : (fillL ls n k).length = n := by simp [fillL]; omega
theorem fillL_step (ls : List (List UInt8)) (n k : Nat) (h : ls.length = n) (hk : k < n) (l : List UInt8) (hl : ls[k]? = some l) : (fillL ls n k).set k l = fillL ls n (k + 1) := by
  obtain ⟨r, hr⟩ : ∃ r, n - k = r + 1 := ⟨n - k - 1, by omega⟩
  have hr' : n - (k + 1) = r := by omega
  have hlen : (ls.take k).length = k := by simp; omega
  rw [fillL, fillL, hr, hr', List.take_add_one, hl, List.replicate_succ, List.set_append_right _ _ (by omega), hlen]
  simp
structure FInv (w : World) (B : Nat) (ls : List (List UInt8)) (n k : Nat) (wr : World) : Prop where
  ids : IdsAt wr B (fillL ls n k)
  bel : Below w.heap.size w wr
theorem FInv.step {w : World} {B : Nat} {ls : List (List UInt8)} {n k : Nat} {wr : World} (h : FInv w B ls n k wr) (hB : w.heap.size ≤ B) (hlen : ls.length = n) (hk : k < n) (l : List UInt8) (hl : ls[k]? = some l) (h20 : l.length = 20) (w' : World) (g : Gr wr w') :
    FInv w B ls n (k + 1) (w'.setCells B (k * 20) (idV l).toArray.toList) := by
  have hi := (h.ids.gr g).put k (by rw [length_fillL ls n k hlen (by omega)]; exact hk) l h20
  rw [fillL_step ls n k hlen hk l hl] at hi
  exact ⟨hi, below_setCells B hB _ _ _ (h.bel.trans (g.below _ h.bel.size))⟩

set_option maxHeartbeats 4000000 in
set_option maxRecDepth 1000000 in
theorem nst_zero (w : World) (a : Option Addr) (cap : Nat) (lk : List UInt8) (_hlk : lk.length = 20) : Calls Yba.prog 5 #[.slice a 0 cap, .agg (idV lk).toArray] w fun e w' => e = .returned (.bool true) ∧ Below w.heap.size w w' := by
  go_enter Yba.func5, Yba.ntmps5
  go_wp2
  go_ret
  exact ⟨rfl, (Below.refl _ _).alloc (Nat.le_refl _) _⟩
set_option maxHeartbeats 4000000 in
set_option maxRecDepth 1000000 in
theorem nst_big (w : World) (a : Option Addr) (n cap : Nat) (lk : List UInt8) (_hlk : lk.length = 20) (hn : 1024 < n) : Calls Yba.prog 5 #[.slice a n cap, .agg (idV lk).toArray] w fun e w' => e = .returned (.bool true) ∧ Below w.heap.size w w' := by
  have h2 : (1024 : Int) < (n : Int) := by omega
  go_enter Yba.func5, Yba.ntmps5
  go_wp2
  go_ret
  exact ⟨rfl, (Below.refl _ _).alloc (Nat.le_refl _) _⟩

theorem dist_rank (lk la : List UInt8) (hk : lk.length = 20) (ha : la.length = 20) : Lib.beNat (distL lk la) = rank (Lib.beNat lk) (Lib.beNat la) / 2 := by
  rw [dist_val lk la hk ha, rank_half, Nat.min_comm]
theorem dist_cmp (lk la lb : List UInt8) (hk : lk.length = 20) (ha : la.length = 20) (hb : lb.length = 20) (h : rank (Lib.beNat lk) (Lib.beNat la) ≤ rank (Lib.beNat lk) (Lib.beNat lb)) : ¬ (0 < Lib.compareBytes (distL lk la) (distL lk lb)) := by
  rw [cmp_gt _ _ ((length_distL lk la).trans (length_distL lk lb).symm), dist_rank lk la hk ha, dist_rank lk lb hk hb]
  generalize rank (Lib.beNat lk) (Lib.beNat la) = x at *
  generalize rank (Lib.beNat lk) (Lib.beNat lb) = y at *
  omega
structure NS (w0 : World) (B K : Nat) (raw : List (List UInt8)) (lk : List UInt8) (W : World) : Prop where
  gr : Gr w0 W
  hI : IdsAt W B raw
  hK : At W K (idV lk).toArray 37
theorem NS.step {w0 : World} {B K : Nat} {raw : List (List UInt8)} {lk : List UInt8} {W W' : World} (h : NS w0 B K raw lk W) (g : Gr W W') : NS w0 B K raw lk W' := ⟨h.gr.trans g, h.hI.gr g, h.hK.gr g⟩
theorem NS.put {w0 : World} {B K : Nat} {raw : List (List UInt8)} {lk : List UInt8} {W : World} (h : NS w0 B K raw lk W) (X : Nat) (hX : w0.heap.size ≤ X) (hB : B ≠ X) (hK : K ≠ X) (vs : List Value) : NS w0 B K raw lk (W.setCells X 0 vs) :=
  ⟨Gr.setCells X hX _ _ _ h.gr, h.hI.of_heap (heap_setCells_other _ _ hB _ _ _), h.hK.of_heap (heap_setCells_other _ _ hK _ _ _)⟩

set_option maxHeartbeats 4000000 in
set_option maxRecDepth 1000000 in
theorem nst_main (w : World) (b o n cap : Nat) (raw : List (List UInt8)) (hlen : raw.length = n) (h20 : ∀ l ∈ raw, l.length = 20) (hr : ∀ (i : Nat) (l : List UInt8), raw[i]? = some l → w.rangeAt b (o + i * 20) (idV l)) (hb : b < w.heap.size) (hn0 : 0 < n) (hn : n ≤ 1024) (lk : List UInt8) (hlk : lk.length = 20) :
    Calls Yba.prog 5 #[.slice (some ⟨b, o, none⟩) n cap, .agg (idV lk).toArray] w fun e w' => e = .returned (.bool true) ∧ Below w.heap.size w w' := by
  have mixed : Yba.prog.follows .mixedOrders = true := by kernel_rfl
  obtain ⟨Z, hZ, hmk⟩ := mk_ids n (by omega)
  obtain ⟨S, hS⟩ : ∃ S, S = w.heap.size := ⟨_, rfl⟩
  obtain ⟨w1, hw1⟩ : ∃ w1, w1 = w.alloc (.cells (idV lk).toArray 36) := ⟨_, rfl⟩
  have s1 : w1.heap.size = S + 1 := by rw [hw1, World.size_alloc, hS]
  have HJ0 : Hid (FInv w1 (S + 1) raw n 0 (w1.alloc (.cells Z 37))) := ⟨by rw [fillL_zero, ← s1]; exact ids_zero w1 n Z hZ, (Below.refl _ _).alloc (Nat.le_refl _) _⟩
  have aK1 : At w1 S (idV lk).toArray 36 := by rw [hw1, hS]; exact At.new w _ _
  have B1 : Below S w w1 := by rw [hw1, hS]; exact (Below.refl _ _).alloc (Nat.le_refl _) _
  have HRW : Hid (∀ (i : Nat) (l : List UInt8), raw[i]? = some l → w1.rangeAt b (o + i * 20) (idV l)) := fun i l hl => by rw [hw1]; exact World.rangeAt_alloc (hr i l hl) _
  have HH : Hid (At w1 S (idV lk).toArray 36 ∧ Below S w w1 ∧ w1.heap.size = S + 1 ∧ S = w.heap.size ∧ b < w1.heap.size) := ⟨aK1, B1, s1, hS, by omega⟩
  have HW := hide hw1
  have HS := hide hS
  have H20 := hide h20
  obtain ⟨W2, hW2⟩ : ∃ W2, W2 = w1.alloc (.cells Z 37) := ⟨_, rfl⟩
  have hmk1 := hmk w1
  rw [← hW2, s1] at hmk1
  rw [← hW2] at HJ0
  have hnz1 : ¬ ((1024 : Int) < (n : Int)) := by omega
  have hnz0 : ¬ ((n : Int) = 0) := by omega
  have hnz0' : ((n : Int) == 0) = false := by simpa using hnz0
  clear hr hZ aK1 B1 hw1 h20 hS hmk hW2 s1
  go_enter Yba.func5, Yba.ntmps5
  go_upto_region 1 with fail
  rw [← HW.out, ← HS.out]
  go_wp2
  clear hmk1 HW
  go_loopg [23, 6] n (fun gg s23 s6 wr => ∃ k : Nat, s23 = .int .i64 k ∧ k ≤ n ∧ n - k ≤ gg ∧ Aside (FInv w1 (S + 1) raw n k wr))
  case atStart => exact ⟨0, rfl, Nat.zero_le _, by omega, HJ0.out⟩
  case round =>
    clear HJ0
    obtain ⟨k, rfl, hkn, hg, J⟩ := hrel
    by_cases hk : k < n
    · have hkz : (k : Int) < (n : Int) := by omega
      have hkz0 : (0:Int) ≤ (k : Int) := by omega
      obtain ⟨l, hl⟩ : ∃ l, raw[k]? = some l := ⟨_, List.getElem?_eq_getElem (by omega)⟩
      have hl20 := H20.out l (List.mem_of_getElem? hl)
      have L1 : Aside ((loadVar 36 ⟨b, o + k * 20, none⟩).run Yba.prog wr = .ok (.agg (idV l).toArray) wr) := idload36 (fun j v hv => by rw [J.out.bel.cell (p := ⟨b, o + k * 20 + j, none⟩) HH.out.2.2.2.2]; exact HRW.out k l hl j v hv) hl20
      have T1 := hide (J.out.ids.there k (by rw [length_fillL raw n k hlen hkn]; exact hk) l hl20)
      have HO := hide (id_one l)
      have HN := hide (id_info hl20)
      have J2 : Aside (FInv w1 (S + 1) raw n (k + 1) (wr.setCells (S + 1) (k * 20) (idV l).toArray.toList)) := J.out.step (by rw [HH.out.2.2.1]; exact Nat.le_refl _) hlen hk l hl hl20 wr (Gr.refl wr)
      clear hl J
      go_wp2_with (first | refine wpList_load_run rfl 36 _ rfl b (o + k * 20) rfl _ L1.out ?_ | refine wpList_store_mid rfl 37 _ _ rfl (S + 1) (k * 20) _ rfl rfl T1.out HN.out HO.out ?_)
      go_roundg (n - (k + 1))
      case measure => omega
      case rel => exact ⟨k + 1, by go_num, by omega, Nat.le_refl _, J2⟩
    · obtain rfl : k = n := by omega
      have I1 : IdsAt wr (S + 1) raw := by have := J.out.ids; rwa [fillL_all raw k hlen] at this
      have B1 : Below S w wr := HH.out.2.1.trans (J.out.bel.mono (by rw [HH.out.2.2.1]; omega))
      have K1 : At wr S (idV lk).toArray 36 := HH.out.1.of_heap (J.out.bel.block S (by rw [HH.out.2.2.1]; omega))
      have hsz : S + 1 < wr.heap.size := I1.lt
      have HNR := hide (newRing_calls wr (S + 1) k k raw I1 hlen hn0 (by omega))
      have HP : Hid (IdsAt wr (S + 1) raw ∧ Below S w wr ∧ At wr S (idV lk).toArray 36) := ⟨I1, B1, K1⟩
      clear I1 B1 K1 J HH HRW
      go_wp2_with fail
      refine HNR.out.mono ?_
      rintro e w2 ⟨R, xs, rfl, hR, b2, rowR, hxl, perm, pw⟩
      have hin' : ∀ y ∈ xs, y < k := fun y hy => by simpa using (perm.mem_iff).1 hy
      obtain ⟨O, hO⟩ : ∃ O, O = w2.heap.size := ⟨_, rfl⟩
      obtain ⟨w3, hw3⟩ : ∃ w3, w3 = w2.alloc (.cells #[.slice (some ⟨S + 1, 0, none⟩) k k, .slice (some ⟨R, 0, none⟩) k k] 28) := ⟨_, rfl⟩
      have G3 : Ring w3 O (S + 1) R k k k raw xs := by
        rw [hw3, hO]
        exact ⟨by rw [hxl]; exact At.new w2 _ _, (HP.out.1.of_heap (b2.block _ HP.out.1.lt)).alloc _, ⟨[], by simpa using rowR.alloc _, by simp [hxl]⟩, hlen, hin'⟩
      have B3 : Below S w w3 := by
        have h := HP.out.2.1.trans (b2.mono (by omega))
        rw [hw3]
        exact h.alloc (by have := h.size; have := HS.out; omega) _
      have K3 : At w3 S (idV lk).toArray 36 := by rw [hw3]; exact (HP.out.2.2.of_heap (b2.block _ HP.out.2.2.lt)).alloc _
      obtain ⟨KK, hK⟩ : ∃ KK, KK = w3.heap.size := ⟨_, rfl⟩
      obtain ⟨w4, hw4⟩ : ∃ w4, w4 = w3.alloc (.cells zeroA 37) := ⟨_, rfl⟩
      have Z4 : At w4 KK zeroA 37 := by rw [hw4, hK]; exact At.new w3 _ _
      obtain ⟨w5, hw5⟩ : ∃ w5, w5 = w4.setCells KK 0 (idV lk).toArray.toList := ⟨_, rfl⟩
      have K5 : At w5 KK (idV lk).toArray 37 := by rw [hw5]; exact Z4.zput hlk
      have g5 : Gr w3 w5 := by rw [hw5, hw4]; exact Gr.setCells KK (by omega) _ _ _ ((Gr.refl w3).alloc _)
      have G5 := G3.gr g5
      have L3 := hide (idload36 K3.all hlk)
      have T4 := hide (Z4.zthere hlk)
      have HO := hide (id_one lk)
      have HN := hide (id_info hlk)
      have L5 := hide (idload K5.all hlk)
      have HRT := hide (root_calls w5 O (S + 1) R k k k raw xs G5 (by omega) (by omega) pw lk hlk)
      have HQ : Hid (Ring w5 O (S + 1) R k k k raw xs ∧ At w5 KK (idV lk).toArray 37 ∧ Below S w w5 ∧ xs.Perm (List.range k)) := ⟨G5, K5, B3.trans (g5.below S (by have := B3.size; have := HS.out; omega)), perm⟩
      have HW3 := hide hw3
      have HOe := hide hO
      have HW4 := hide hw4
      have HW5 := hide hw5
      have HKe := hide hK
      have HZ := hide zeroA_eq
      clear hin' hR b2 rowR hxl perm pw G3 B3 K3 Z4 K5 g5 G5 hO hw3 hK hw4 hw5 HNR HP
      go_upto_region 12 with fail
      rw [← HW3.out, ← HOe.out]
      clear HW3 HOe
      go_upto_region 13 with (first | refine wpList_load_run rfl 36 _ rfl S 0 rfl _ L3.out ?_ | (rw [← HZ.out, ← HW4.out, ← HKe.out]; refine wpList_store_mid rfl 37 _ _ rfl KK 0 _ rfl rfl T4.out HN.out HO.out ?_))
      rw [show w4.setCells KK 0 (idV lk) = w5 from HW5.out.symm]
      clear HW4 HW5 HKe L3 T4 HO HN
      go_wp2_with (first | refine wpList_load_run rfl 37 _ rfl KK 0 rfl _ L5.out ?_)
      refine HRT.out.mono ?_
      rintro e w6 ⟨⟨r, rfl, hrx, hrk⟩, g6⟩
      have hrn : r < k := HQ.out.1.hin r hrx
      have hn6 : NS w6 (S + 1) KK raw lk w6 := ⟨Gr.refl _, HQ.out.1.hI.gr g6, HQ.out.2.1.gr g6⟩
      have B6 : Below S w w6 := HQ.out.2.2.1.trans (g6.below S (by have := HQ.out.2.2.1.size; have := HS.out; omega))
      have hrk2 : ∀ x, x < k → rank (Lib.beNat lk) (val raw r) ≤ rank (Lib.beNat lk) (val raw x) := fun x hx => hrk x (HQ.out.2.2.2.mem_iff.2 (List.mem_range.2 hx))
      obtain ⟨lr, hlr⟩ : ∃ lr, raw[r]? = some lr := ⟨_, List.getElem?_eq_getElem (by omega)⟩
      have hlr20 := H20.out lr (List.mem_of_getElem? hlr)
      have hr0 : ¬ ((r : Int) < 0) := by omega
      have hr1 : ¬ ((k : Int) ≤ (r : Int)) := by omega
      have hr2 : (0 : Int) ≤ (r : Int) := by omega
      have hr3 : (r : Int) < (k : Int) := by omega
      have HRK := hide hrk2
      have HN6 := hide hn6
      have HB6 := hide B6
      have HLR := hide hlr
      have hKs : KK < w6.heap.size ∧ S + 1 < w6.heap.size := ⟨hn6.hK.lt, hn6.hI.lt⟩
      have hu37 : Yba.prog.underlying 37 = some (.array 20 5) := by kernel_rfl
      have hik : (Yba.prog.info? 37).map (·.size) = some (idV lk).length := by rw [length_idV, hlk]; kernel_rfl
      have hir : (Yba.prog.info? 37).map (·.size) = some (idV lr).length := by rw [length_idV, hlr20]; kernel_rfl
      have HD := hide (fun W => dist_calls W lk lr hlk hlr20)
      have HO := hide (id_one (distL lk lr))
      have HN := hide (id_info (length_distL lk lr))
      clear hrk hrk2 hn6 B6 g6 HQ HRT L5 hrx
      go_wp2_with fail
      go_cut [10] (fun s10 wx => ∃ X : Nat, s10 = .pointer (some ⟨X, 0, none⟩) ∧ Aside (NS w6 (S + 1) KK raw lk wx ∧ At wx X (idV (distL lk lr)).toArray 37))
      case first =>
        clear HRK HB6 HLR H20
        refine wp_region_held_drew (S := NS w6 (S + 1) KK raw lk) (by kernel_rfl) (HN6.out.step ((Gr.refl w6).drew)) (fun hHeld => ?_)
        refine wpAnyH_take (i := 0) (v := _) rfl (by kernel_rfl) (by kernel_rfl) (by kernel_rfl) (fun _ _ _ h => h) (yieldsIf_load_mid (by rfl) 37 _ rfl KK 0 rfl (idV lk) _ (fun W h => h.hK.all) hu37 rfl hik) (by assumption) ?_
        refine wpAnyH_take (i := 1) (v := ?_) rfl (by kernel_rfl) (by kernel_rfl) (by kernel_rfl) (fun _ _ _ h => h) (Or.inl ⟨by rfl, ?_⟩) (by assumption) ?_
        rotate_left
        · intro w hSw; go_simp; try with_reducible rfl
        refine wpAnyH_take (i := 2) (v := ?_) rfl (by kernel_rfl) (by kernel_rfl) (by kernel_rfl) (fun _ _ _ h => h) (Or.inl ⟨by rfl, ?_⟩) (by assumption) ?_
        rotate_left
        · intro w hSw; go_simp; try with_reducible rfl
        refine wpAnyH_take (i := 3) (v := ?_) rfl (by kernel_rfl) (by kernel_rfl) (by kernel_rfl) (fun _ _ _ h => h) (Or.inl ⟨by rfl, ?_⟩) (by assumption) ?_
        rotate_left
        · intro w hSw; go_simp; try with_reducible rfl
        refine wpAnyH_take (i := 4) (v := _) rfl (by kernel_rfl) (by kernel_rfl) (by kernel_rfl) (fun _ _ _ h => h) (yieldsIf_load_mid (by rfl) 37 _ rfl (S + 1) (r * 20) rfl (idV lr) _ (fun W h => h.hI.row r lr hlr) hu37 rfl hir) (by assumption) ?_
        generalize w6.drew = V0 at hHeld ⊢
        refine wpAnyH_ready (rs := [5, 6]) (by kernel_rfl) (by simp) ?_
        refine (AllReadyH.cons rfl (fun K hK => ?_) (AllReadyH.cons rfl (fun K hK => ?_) AllReadyH.nil))
        · go_simp
          go_at_call 16
          refine (HD.out _).mono ?_
          rintro e V1 ⟨rfl, hg⟩
          refine hK.out _ _ (hHeld.step hg) (fun hHeld2 => ?_)
          clear hHeld hK K hg
          have hHeld := hHeld2
          clear hHeld2
          refine wpAnyH_ready (rs := [6]) (by kernel_rfl) (by simp) ?_
          refine AllReadyH.cons rfl (fun K hK => ?_) AllReadyH.nil
          go_simp
          refine hK.out _ _ (hHeld.step ((Gr.refl _).alloc _)) (fun hHeld2 => ?_)
          obtain ⟨X, hXe⟩ : ∃ q, q = V1.heap.size := ⟨_, rfl⟩
          have hXl : w6.heap.size ≤ X := by rw [hXe]; exact hHeld.gr.size
          have hX : At (V1.alloc (.cells zeroA 37)) X zeroA 37 := by rw [hXe]; exact At.new _ _ _
          rw [← hXe, ← HZ.out]
          rw [← HZ.out] at hHeld2
          generalize V1.alloc (.cells zeroA 37) = V2 at *
          clear hHeld hK K hXe
          have hHeld := hHeld2
          clear hHeld2
          refine wpAnyH_ready (rs := [7]) (by kernel_rfl) (by simp) ?_
          refine AllReadyH.cons rfl (fun K hK => ?_) AllReadyH.nil
          rw [if_pos (by rfl)]
          refine wp_store_mid 37 _ _ rfl X 0 _ rfl rfl (hX.zthere (length_distL lk lr)) HN.out HO.out ?_
          refine hK.out _ _ (hHeld.put X (by omega) (by omega) (by omega) _) (fun hHeld3 => ?_)
          have hX2 := hX.zput (length_distL lk lr)
          generalize V2.setCells X 0 (idV (distL lk lr)).toArray.toList = U at *
          refine wpAnyH_done (by kernel_rfl) ?_ _
          go_wp2_with fail
          go_meet
          exact ⟨X, rfl, hHeld3, hX2⟩
        · go_simp
          refine hK.out _ _ (hHeld.step ((Gr.refl _).alloc _)) (fun hHeld2 => ?_)
          obtain ⟨X, hXe⟩ : ∃ q, q = V0.heap.size := ⟨_, rfl⟩
          have hXl : w6.heap.size ≤ X := by rw [hXe]; exact hHeld.gr.size
          have hX : At (V0.alloc (.cells zeroA 37)) X zeroA 37 := by rw [hXe]; exact At.new _ _ _
          rw [← hXe, ← HZ.out]
          rw [← HZ.out] at hHeld2
          generalize V0.alloc (.cells zeroA 37) = V1 at *
          clear hHeld hK K hXe
          have hHeld := hHeld2
          clear hHeld2
          refine wpAnyH_ready (rs := [5]) (by kernel_rfl) (by simp) ?_
          refine AllReadyH.cons rfl (fun K hK => ?_) AllReadyH.nil
          go_simp
          go_at_call 16
          refine (HD.out _).mono ?_
          rintro e V2 ⟨rfl, hg⟩
          refine hK.out _ _ (hHeld.step hg) (fun hHeld2 => ?_)
          replace hX := hX.gr hg
          clear hHeld hK K hg
          have hHeld := hHeld2
          clear hHeld2
          refine wpAnyH_ready (rs := [7]) (by kernel_rfl) (by simp) ?_
          refine AllReadyH.cons rfl (fun K hK => ?_) AllReadyH.nil
          rw [if_pos (by rfl)]
          refine wp_store_mid 37 _ _ rfl X 0 _ rfl rfl (hX.zthere (length_distL lk lr)) HN.out HO.out ?_
          refine hK.out _ _ (hHeld.put X (by omega) (by omega) (by omega) _) (fun hHeld3 => ?_)
          have hX2 := hX.zput (length_distL lk lr)
          generalize V2.setCells X 0 (idV (distL lk lr)).toArray.toList = U at *
          refine wpAnyH_done (by kernel_rfl) ?_ _
          go_wp2_with fail
          go_meet
          exact ⟨X, rfl, hHeld3, hX2⟩
      case rest =>
        obtain ⟨X, rfl, J⟩ := hcut
        have hvr : val raw r = Lib.beNat lr := by rw [val, getD_of hlr]
        clear HD HO HN HN6 hir
        go_wp2
        go_loopg [55, 11] k (fun gg s55 s11 wr => ∃ j : Nat, s55 = .int .i64 j ∧ j ≤ k ∧ k - j ≤ gg ∧ Aside (Gr wc wr))
        case atStart => exact ⟨0, rfl, Nat.zero_le _, by omega, Gr.refl wc⟩
        case round =>
          obtain ⟨j, rfl, hjn, hg2, J3⟩ := hrel
          by_cases hj : j < k
          · have hjz : (j : Int) < (k : Int) := by omega
            have hjz0 : (0:Int) ≤ (j : Int) := by omega
            obtain ⟨lj, hlj⟩ : ∃ lj, raw[j]? = some lj := ⟨_, List.getElem?_eq_getElem (by omega)⟩
            have hlj20 := H20.out lj (List.mem_of_getElem? hlj)
            have hvj : val raw j = Lib.beNat lj := by rw [val, getD_of hlj]
            have hq := HRK.out j hj
            rw [hvr, hvj] at hq
            have hy := dist_cmp lk lr lj hlk hlr20 hlj20 hq
            have LD := hide (fun p os => idload ((J.out.2.gr (J3.out.grown p os)).all) (length_distL lk lr))
            have LK := hide (fun p os => idload (((J.out.1.step (J3.out.grown p os)).hK).all) hlk)
            have LJ := hide (fun p os => idload ((J.out.1.step (J3.out.grown p os)).hI.row j lj hlj) hlj20)
            have HD := hide (fun p os => dist_calls (grow (wr.drewN p) os) lk lj hlk hlj20)
            have hcm := fun p os => cmp_grown (grow (wr.drewN p) os) (distL lk lr) (distL lk lj) (length_distL lk lr) (length_distL lk lj)
            generalize Lib.compareBytes (distL lk lr) (distL lk lj) = y at hcm hy
            have hyd : decide (0 < y) = false := decide_eq_false hy
            have hyd2 : decide (y > 0) = false := hyd
            have HC := hide hcm
            clear hq hvj hlj hcm
            go_wp2_with fail
            refine wp_region_quiet_grown (by assumption) (by kernel_rfl) ?_
            refine wpQuiet_load_mid rfl 37 _ rfl _ _ rfl _ (fun w' hw' => by obtain ⟨p, rfl⟩ := hw'; exact LD.out _ _) ?_
            refine wpQuiet_load_mid rfl 37 _ rfl _ _ rfl _ (fun w' hw' => by obtain ⟨p, rfl⟩ := hw'; exact LK.out _ _) ?_
            iterate 3 quiet_step (fail)
            refine wpQuiet_load_mid rfl 37 _ rfl _ _ rfl _ (fun w' hw' => by obtain ⟨p, rfl⟩ := hw'; exact LJ.out _ _) ?_
            quiet_step ((go_at_call 16; refine Calls.grown_of' (HD.out _ _)))
            quiet_step ((go_at_call 17; refine Calls.grown_of' (HC.out _ _)))
            quiet_step (fail)
            refine wpQuiet_nil ?_
            intro _ hw'
            obtain ⟨⟨nq, osq⟩, hw''⟩ := hw'
            subst hw''
            have J4 : Aside (Gr wc (grow (wr.drewN nq) osq)) := J3.out.grown nq osq
            clear J3 LD LK LJ HD HC
            go_wp2
            go_roundg (k - (j + 1))
            case measure => omega
            case rel => exact ⟨j + 1, by go_num, by omega, Nat.le_refl _, J4⟩
          · obtain rfl : j = k := by omega
            have HB : Hid (Below w.heap.size w wr) := by
              show Below _ _ _
              have h1 : Below S w wc := HB6.out.trans (J.out.1.gr.below S (by have := HB6.out.size; have := HS.out; omega))
              rw [← HS.out]
              exact h1.trans (J3.out.below S (by have := h1.size; have := HS.out; omega))
            clear J3 J
            go_wp2
            go_ret
            exact ⟨rfl, HB.out⟩
end Go.Proofs.Ybulkapqu
