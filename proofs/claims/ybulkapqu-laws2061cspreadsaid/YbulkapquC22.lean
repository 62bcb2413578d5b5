import Derived.Test.YbulkapquC21
import Derived.Test.YbulkapquC17
import Derived.Test.YbulkapquC18
namespace Go.Proofs.Ybulkapqu
open Go.RowKit Go.Sort

theorem PeersAt.form {w : World} {v : Value} {ids : List (List UInt8)} {b o cap : Nat} (h : PeersAt w v ids b o cap) : ∃ a n c, v = .slice a n c ∧ ids.length = n := by
  rcases h.val with h | ⟨h, h'⟩
  · exact ⟨_, _, _, h, rfl⟩
  · exact ⟨_, _, _, h, by rw [h']; rfl⟩
theorem msgload {w : World} {B : Nat} {m : List Value} (a : At w B m.toArray 94) (hm : m.length = 99) : (loadVar 94 ⟨B, 0, none⟩).run Yba.prog w = .ok (.agg m.toArray) w :=
  run_loadVar_mid _ B 0 94 m _ (fun j u hj => by rw [a.cell, Nat.zero_add]; simpa using hj) Yba.underlying94 rfl (by rw [hm]; kernel_rfl)
set_option maxHeartbeats 4000000 in
set_option maxRecDepth 1000000 in
theorem relay_calls (c : Cfg) (ok : Ok c) (g : Nat → List (List UInt8)) (TR NB base : Nat) (w0 : World) (hB : Base c g TR NB base w0) (w : World) (ob : Option Nat) (ms : List (List Value)) (h : RS TR NB base w0 ob ms w) (ring : Nat) (hr : ring < 2) (key : List UInt8) (hkey : key.length = 20) (stamp : Int) (m : List Value) (hm : Msg (ring : Int) key stamp m) (hlv : m[64]? = some (.int .i64 0)) (hms : ms.length ≤ 90000) (hg : (g ring).length ≤ 100000) :
    Calls Yba.prog 45 #[.pointer (some ⟨c.MB, 0, none⟩), .agg m.toArray] w fun e w' => e = .returned (.tuple #[]) ∧ ∃ ob' ms', Step TR ob w ob' w' ∧ LogAt w' TR base ob' (ms ++ ms') ∧ (∀ m' ∈ ms', Msg (ring : Int) key stamp m') ∧ ms'.length ≤ 640 := by
  have mixed : Yba.prog.follows .mixedOrders = true := by kernel_rfl
  have hm0 : mL m 0 = m := by
    unfold mL
    refine List.ext_getElem? fun i => ?_
    by_cases e : i = 64
    · subst e; rw [hlv, List.getElem?_set_self (by rw [hm.len]; omega)]
    · rw [List.getElem?_set_ne (by omega)]
  obtain ⟨M3, hM3⟩ : ∃ M3, M3 = w.heap.size := ⟨_, rfl⟩
  obtain ⟨w1, hw1⟩ : ∃ w1, w1 = w.alloc (.cells m.toArray 94) := ⟨_, rfl⟩
  have g1 : Gr w w1 := by rw [hw1]; exact (Gr.refl w).alloc _
  have r1 : RS TR NB base w0 ob (ms ++ []) w1 := by rw [List.append_nil]; exact h.gr g1
  have hne : ob ≠ some w.heap.size := by
    intro e
    obtain ⟨cs, a⟩ := h.log.row e
    exact absurd a.lt (by omega)
  have J1 : RL TR NB base w0 w ob ms m (Msg (ring : Int) key stamp) 0 ob [] 0 w1 := by
    refine ⟨.of_gr g1, r1, by simp, by simp, ?_, hne⟩
    rw [hm0, hw1]; exact At.new w _ _
  have R1 := r1.rel hB
  obtain ⟨gv, b, o, cap, hgv, hp, hcap⟩ := R1.grp ring hr
  obtain ⟨og, hog⟩ : ∃ og, (if ring = 0 then 45 else 46) = og := ⟨_, rfl⟩
  rw [hog] at hgv
  obtain ⟨L, hL⟩ : ∃ L, L = (g ring).length := ⟨_, rfl⟩
  have hb : ∀ ids : List (List UInt8), ids.length ≤ L → ids ≠ [] → b < w0.heap.size ∧ b ≠ TR ∧ b ≠ NB := by
    intro ids hi hne
    have hne2 : g ring ≠ [] := by intro e; rw [e] at hL; rw [hL] at hi; exact hne (List.eq_nil_of_length_eq_zero (by simpa using hi))
    obtain ⟨v0, b0, o0, cap0, e0, p0, _⟩ := hB.rel.grp ring hr
    rw [hog] at e0
    have R0 := r1.keep c.RB (World.block_lt_of_cell? _ _ hB.rel.mem.lay) (fun e => (hB.small _ (.inl e)).far (by omega) hB.rel.mem.lay) (fun e => (hB.small _ (.inr e)).far (by omega) hB.rel.mem.lay)
    have e1 := cell_of_heap (a := ⟨c.RB, og, none⟩) R0 e0
    rw [hgv] at e1
    injection e1 with e1
    have hb0 : b = b0 := by
      rcases hp.val with h1 | ⟨_, h1⟩
      · rcases p0.val with h2 | ⟨_, h2⟩
        · rw [e1, h2] at h1; injection h1 with h1 _ _; injection h1 with h1; injection h1 with h1 _ _; exact h1.symm
        · exact absurd h2 hne2
      · exact absurd h1 hne2
    obtain ⟨q, u, hq, hc⟩ := p0.far hne2
    rw [hb0]
    exact ⟨World.block_lt_of_cell? _ _ hc, fun e => (hB.small _ (.inl e)).far hq hc, fun e => (hB.small _ (.inr e)).far hq hc⟩
  have HB := hide hB
  have HOk := hide ok
  have Hb := hide hb
  have HMg := hide hm
  have HR := hide (show w1.cell? ⟨M3, 1, none⟩ = some (.int .i64 (ring : Int)) ∧ w1.cell? ⟨M3, 64, none⟩ = some (.int .i64 0) by
    have a := J1.box
    rw [hm0, ← hM3] at a
    exact ⟨by rw [a.cell]; simpa using hm.ring, by rw [a.cell]; simpa using hlv⟩)
  have HSelf := hide R1.self
  have HGv := hide hgv
  have H78 : Hid (∀ W, Gr w1 W → Calls Yba.prog 78 #[.pointer (some ⟨c.MB, 0, none⟩), .int .i64 (ring : Int)] W fun e w' => e = .returned (.pointer (some ⟨c.RB, og, none⟩)) ∧ Gr W w') := fun W hW => by
    have := group_calls c ok W (R1.mem.gr hW) ring
    rw [hog] at this; exact this
  have H77 : Hid (∀ W, Gr w1 W → Calls Yba.prog 77 #[gv, .agg (idV c.self).toArray, .int .i64 0] W fun e w' => (∃ v' ids' o' c', e = .returned v' ∧ PeersAt w' v' ids' b o' c' ∧ ids'.length ≤ (g ring).length ∧ ids'.length ≤ c') ∧ Gr W w') := fun W hW => sharing_calls W gv (g ring) b o cap (hp.gr hW) hg hcap c.self ok.self 0 (by omega)
  have hu37 := Yba.underlying37
  have hiself : (Yba.prog.info? 37).map (·.size) = some (idV c.self).length := by rw [length_idV, ok.self]; kernel_rfl
  have HJ := hide J1
  have HW := hide hw1
  have HM3 := hide hM3
  have HLL := hide hL
  have HH := hide h
  have hsz : w0.heap.size ≤ w.heap.size := h.size
  have hself := ok.self
  clear h hB hm0 hw1 hM3 g1 r1 hne J1 R1 hgv hp hcap hog hL hb ok hm hlv
  go_enter Yba.func45, Yba.ntmps45
  go_upto_region 1 with fail
  rw [← HW.out, ← HM3.out]
  go_cut [4] (fun s4 wx => ∃ va n vc ids o' c', s4 = .slice va n vc ∧ ids.length = n ∧ Hid (PeersAt wx s4 ids b o' c') ∧ ids.length ≤ L ∧ ids.length ≤ c' ∧ Hid (Gr w1 wx))
  case first =>
    refine wp_region_held_drew (S := Gr w1) (by kernel_rfl) ((Gr.refl w1).drew) (fun hHeld => ?_)
    refine wpAnyH_take (i := 0) (v := ?_) rfl (by kernel_rfl) (by kernel_rfl) (by kernel_rfl) (fun _ _ _ h => h) (Or.inl ⟨by rfl, ?_⟩) (by assumption) ?_
    rotate_left
    · intro w hSw; go_simp; try with_reducible rfl
    refine wpAnyH_take (i := 1) (v := ?_) rfl (by kernel_rfl) (by kernel_rfl) (by kernel_rfl) (fun _ _ _ h => h) (Or.inl ⟨by rfl, ?_⟩) (by assumption) ?_
    rotate_left
    · intro w hSw; go_simp; try with_reducible rfl
    refine wpAnyH_take (i := 2) (v := ?_) rfl (by kernel_rfl) (by kernel_rfl) (by kernel_rfl) (fun _ _ _ h => h) (Or.inl ⟨by rfl, ?_⟩) (by assumption) ?_
    rotate_left
    · intro w hSw; have q1 := cell_gr hSw HR.out.1; go_simp; try with_reducible rfl
    refine wpAnyH_take (i := 6) (v := ?_) rfl (by kernel_rfl) (by kernel_rfl) (by kernel_rfl) (fun _ _ _ h => h) (Or.inl ⟨by rfl, ?_⟩) (by assumption) ?_
    rotate_left
    · intro w hSw; go_simp; try with_reducible rfl
    refine wpAnyH_take (i := 7) (v := ?_) rfl (by kernel_rfl) (by kernel_rfl) (by kernel_rfl) (fun _ _ _ h => h) (Or.inl ⟨by rfl, ?_⟩) (by assumption) ?_
    rotate_left
    · intro w hSw; go_simp; try with_reducible rfl
    refine wpAnyH_take (i := 8) (v := ?_) rfl (by kernel_rfl) (by kernel_rfl) (by kernel_rfl) (fun _ _ _ h => h) (Or.inl ⟨by rfl, ?_⟩) (by assumption) ?_
    rotate_left
    · intro w hSw; go_simp; try with_reducible rfl
    simp only [Act.put, List.getElem_toArray, List.getElem_cons_succ, List.getElem_cons_zero, List.setIfInBounds_toArray, List.set_cons_zero, List.set_cons_succ]
    refine wpAnyH_take (i := 9) (v := _) rfl (by kernel_rfl) (by kernel_rfl) (by kernel_rfl) (fun _ _ _ h => h) (yieldsIf_load_mid (by rfl) 37 _ rfl c.MB 1 rfl (idV c.self) _ (fun W h => rangeAt_gr h HSelf.out) hu37 rfl hiself) (by assumption) ?_
    refine wpAnyH_take (i := 10) (v := ?_) rfl (by kernel_rfl) (by kernel_rfl) (by kernel_rfl) (fun _ _ _ h => h) (Or.inl ⟨by rfl, ?_⟩) (by assumption) ?_
    rotate_left
    · intro w hSw; go_simp; try with_reducible rfl
    refine wpAnyH_take (i := 11) (v := ?_) rfl (by kernel_rfl) (by kernel_rfl) (by kernel_rfl) (fun _ _ _ h => h) (Or.inl ⟨by rfl, ?_⟩) (by assumption) ?_
    rotate_left
    · intro w hSw; have q2 := cell_gr hSw HR.out.2; go_simp; try with_reducible rfl
    refine wpAnyH_take (i := 12) (v := ?_) rfl (by kernel_rfl) (by kernel_rfl) (by kernel_rfl) (fun _ _ _ h => h) (Or.inl ⟨by rfl, ?_⟩) (by assumption) ?_
    rotate_left
    · intro w hSw; go_simp; try with_reducible rfl
    simp only [Act.put, List.getElem_toArray, List.getElem_cons_succ, List.getElem_cons_zero, List.setIfInBounds_toArray, List.set_cons_zero, List.set_cons_succ]
    refine wpAnyH_ready (rs := [3]) (by kernel_rfl) (by simp) ?_
    refine AllReadyH.cons rfl (fun K hK => ?_) AllReadyH.nil
    go_simp
    go_at_call 78
    refine (H78.out _ hHeld).mono ?_
    rintro e V1 ⟨rfl, hg1⟩
    refine hK.out _ _ (hHeld.trans hg1) (fun hHeld2 => ?_)
    clear hg1 hHeld hK K
    have hHeld := hHeld2
    clear hHeld2
    refine wpAnyH_take (i := 4) (v := ?_) rfl (by kernel_rfl) (by kernel_rfl) (by kernel_rfl) (fun _ _ _ h => h) (Or.inl ⟨by rfl, ?_⟩) (by assumption) ?_
    rotate_left
    · intro w hSw; go_simp; try with_reducible rfl
    refine wpAnyH_take (i := 5) (v := ?_) rfl (by kernel_rfl) (by kernel_rfl) (by kernel_rfl) (fun _ _ _ h => h) (Or.inl ⟨by rfl, ?_⟩) (by assumption) ?_
    rotate_left
    · intro w hSw; have q3 := cell_gr hSw HGv.out; go_simp; try with_reducible rfl
    simp only [Act.put, List.getElem_toArray, List.getElem_cons_succ, List.getElem_cons_zero, List.setIfInBounds_toArray, List.set_cons_zero, List.set_cons_succ]
    refine wpAnyH_ready (rs := [13]) (by kernel_rfl) (by simp) ?_
    refine AllReadyH.cons rfl (fun K hK => ?_) AllReadyH.nil
    go_simp
    go_at_call 77
    refine (H77.out _ hHeld).mono ?_
    rintro e V2 ⟨⟨v4, ids, o4, c4, rfl, hp4, hl4, hc4⟩, hg2⟩
    refine hK.out _ _ (hHeld.trans hg2) (fun hHeld2 => ?_)
    clear hg2 hHeld hK K
    have hHeld := hHeld2
    clear hHeld2
    refine wpAnyH_ready (rs := [14]) (by kernel_rfl) (by simp) ?_
    refine AllReadyH.cons rfl (fun K hK => ?_) AllReadyH.nil
    go_simp
    refine hK.out _ _ hHeld (fun hHeld2 => ?_)
    clear hHeld hK K
    have hHeld := hHeld2
    clear hHeld2
    refine wpAnyH_done (by kernel_rfl) ?_ _
    go_wp2_with fail
    go_meet
    obtain ⟨va, n, vc, rfl, hn⟩ := hp4.form
    exact ⟨va, n, vc, ids, o4, c4, rfl, hn, hp4, by rw [HLL.out]; exact hl4, hc4, hHeld⟩
  case rest =>
    obtain ⟨va1, n1, vc1, ids1, o1, c1, rfl, hn1, hp1, hl1, hc1, gx⟩ := hcut
    have J2 := HJ.out.gr gx.out
    have q2 := cell_gr gx.out HR.out.2
    clear HJ HR H78 H77 HGv HSelf gx
    go_upto_region 3 with fail
    have HZ := hide zeroP_eq
    go_loopg [4, 5] 40 (fun gg s4 s5 wr => ∃ (d : Nat) (va : Option Addr) (n vc : Nat), s4 = .slice va n vc ∧ s5 = .int .i64 d ∧ d ≤ 40 ∧ 40 - d ≤ gg ∧ ∃ ids o4 c4 ob' ms' lv, ids.length = n ∧ ids.length ≤ L ∧ ids.length ≤ c4 ∧ Aside (PeersAt wr (.slice va n vc) ids b o4 c4 ∧ RL TR NB base w0 w ob ms m (Msg (ring : Int) key stamp) (16 * d) ob' ms' lv wr))
    case atStart => exact ⟨0, va1, n1, vc1, rfl, rfl, Nat.zero_le _, by omega, ids1, o1, c1, ob, [], 0, hn1, hl1, hc1, hp1.out, J2⟩
    case round =>
      clear J2 hp1 hl1 hc1 hn1
      obtain ⟨d, va, n, vc, rfl, rfl, hd40, hg0, ids, o4, c4, ob', ms', lv, hn, hl4, hc4, J⟩ := hrel
      by_cases hn1 : 1 < n
      · have hnz : (1 : Int) < (n : Int) := by omega
        by_cases hd : d < 40
        · have hdz : (d : Int) < 40 := by omega
          obtain ⟨e1, he1⟩ : ∃ e1 : Nat, e1 = d + 1 := ⟨_, rfl⟩
          obtain ⟨N4, hN4⟩ : ∃ N4 : Nat, N4 = 4 * e1 := ⟨_, rfl⟩
          have hw1 : (d : Int) + 1 = (e1 : Int) := by omega
          have hw1w : IntKind.i64.wrap (e1 : Int) = (e1 : Int) := by rw [IntKind.wrap_i64]; omega
          have hw4 : 4 * (e1 : Int) = (N4 : Int) := by omega
          have hw4w : IntKind.i64.wrap (N4 : Int) = (N4 : Int) := by rw [IntKind.wrap_i64]; omega
          have hN160 : N4 ≤ 160 := by omega
          have he40 : (e1 : Int) ≤ 40 := by omega
          have he0 : (0 : Int) ≤ (e1 : Int) := by omega
          clear he1 hN4
          have hl100 : ids.length ≤ 100000 := by have := HLL.out; omega
          have LSf : Hid (∀ W obx msx lvx k, RL TR NB base w0 w ob ms m (Msg (ring : Int) key stamp) k obx msx lvx W → (loadVar 37 ⟨c.MB, 1, none⟩).run Yba.prog W = .ok (.agg (idV c.self).toArray) W) := fun W obx msx lvx k hW => idload (hW.rs.rel HB.out).self hself
          have LS1 := hide (LSf.out _ _ _ _ _ J.out.2)
          have H79 : Hid (∀ W, Calls Yba.prog 79 #[.agg (idV c.self).toArray, .int .i64 (d : Int)] W fun e w' => (∃ o : Int, e = .returned (.int .i64 o)) ∧ Gr W w') := fun W => digit_calls W c.self hself d hd
          go_upto_region 5 with (first | refine wpList_load_run rfl 37 _ rfl c.MB 1 rfl _ LS1.out ?_)
          go_wp2_with (first | refine wpList_load_run rfl 37 _ rfl c.MB 1 rfl _ LS1.out ?_)
          refine (H79.out _).mono ?_
          rintro e w2 ⟨⟨dg, rfl⟩, g2⟩
          have J2 : Aside (PeersAt w2 (.slice va n vc) ids b o4 c4 ∧ RL TR NB base w0 w ob ms m (Msg (ring : Int) key stamp) (16 * d + 0) ob' ms' lv w2) := ⟨J.out.1.gr g2, J.out.2.gr g2⟩
          clear LS1 H79 g2 J
          go_wp2
          go_loopg [42] 16 (fun gg s42 wr => ∃ k : Nat, s42 = .int .i64 k ∧ k ≤ 16 ∧ 16 - k ≤ gg ∧ ∃ ob' ms' lv, Aside (PeersAt wr (.slice va n vc) ids b o4 c4 ∧ RL TR NB base w0 w ob ms m (Msg (ring : Int) key stamp) (16 * d + k) ob' ms' lv wr))
          case atStart => exact ⟨0, rfl, Nat.zero_le _, by omega, ob', ms', lv, J2⟩
          case round =>
            clear J2
            obtain ⟨k, rfl, hk16, hg2, ob', ms', lv, J⟩ := hrel
            by_cases hk : k < 16
            · have hkz : (k : Int) < 16 := by omega
              by_cases hkd : (k : Int) = dg
              · have JN : Aside (PeersAt wr (.slice va n vc) ids b o4 c4 ∧ RL TR NB base w0 w ob ms m (Msg (ring : Int) key stamp) (16 * d + (k + 1)) ob' ms' lv wr) := ⟨J.out.1, J.out.2.mono (by omega)⟩
                clear J
                go_wp2
                go_roundg (16 - (k + 1))
                case measure => omega
                case rel => exact ⟨k + 1, by go_num, by omega, Nat.le_refl _, ob', ms', lv, JN⟩
              · have LS1 := hide (LSf.out _ _ _ _ _ J.out.2)
                have H80 : Hid (∀ W, Calls Yba.prog 80 #[.agg (idV c.self).toArray, .int .i64 (d : Int), .int .i64 (k : Int)] W fun e w' => (∃ l', l'.length = 20 ∧ e = .returned (.agg (idV l').toArray)) ∧ Gr W w') := fun W => withDigit_calls W c.self hself d k hd hk
                have hkd' : ((k : Int) == dg) = false := by simpa using hkd
                go_wp2_with (first | refine wpList_load_run rfl 37 _ rfl c.MB 1 rfl _ LS1.out ?_)
                refine (H80.out _).mono ?_
                rintro e w3 ⟨⟨lk, hlk, rfl⟩, g3⟩
                have J3 : Aside (PeersAt w3 (.slice va n vc) ids b o4 c4 ∧ RL TR NB base w0 w ob ms m (Msg (ring : Int) key stamp) (16 * d + k) ob' ms' lv w3) := ⟨J.out.1.gr g3, J.out.2.gr g3⟩
                have H77 := hide (sharing_calls w3 _ ids b o4 c4 J3.out.1 hl100 hc4 lk hlk N4 hN160)
                clear LS1 H80 g3 J
                go_wp2_with fail
                refine H77.out.mono ?_
                rintro e wr ⟨⟨v8, ids8, o8, c8, rfl, hp8, hl8, hc8⟩, g3⟩
                have J4 : Aside (PeersAt wr (.slice va n vc) ids b o4 c4 ∧ RL TR NB base w0 w ob ms m (Msg (ring : Int) key stamp) (16 * d + k) ob' ms' lv wr) := ⟨J3.out.1.gr g3, J3.out.2.gr g3⟩
                have Hkey := hide (show wr.rangeAt M3 22 (idV key) from fun j x hj => by
                  have a := J4.out.2.box
                  rw [← HM3.out] at a
                  rw [a.cell]
                  simpa using (HMg.out.level hkey lv).key j x hj)
                have hikey : (Yba.prog.info? 37).map (·.size) = some (idV key).length := by rw [length_idV, hkey]; kernel_rfl
                have HPv : Hid (∀ W, Gr wr W → Calls Yba.prog 82 #[.pointer (some ⟨c.MB, 0, none⟩), .int .i64 0, .agg (idV key).toArray] W fun e w' => ∃ p1 p2 p3, e = .returned (.func (.func 104) #[] #[p1, p2, p3]) ∧ Gr W w' ∧ PassOk c key w' p1 p2 p3) := fun W hW => pover_calls c HOk.out W (((J4.out.2.gr hW).rs.rel HB.out).mem) key hkey
                have HNM : Hid (∀ W, Gr wr W → ∀ p1 p2 p3, PassOk c key W p1 p2 p3 → Calls Yba.prog 81 #[v8, .agg (idV key).toArray, .func (.func 104) #[] #[p1, p2, p3]] W fun e w' => (∃ (l' : List UInt8) (f : Bool), l'.length = 20 ∧ e = .returned (.tuple #[.agg (peerV l').toArray, .bool f])) ∧ Gr W w') := fun W hW p1 p2 p3 hP => nearestMember_calls W v8 ids8 b o8 c8 (hp8.gr hW) (by omega) key hkey p1 p2 p3 (passB c key) (fun X hX l hl => hP X hX l (hp8.len l hl))
                clear J3 g3 H77
                go_upto_region 11 with fail
                go_cut [9, 10] (fun s9 s10 wx => ∃ (X : Nat) (l1 : List UInt8) (f1 : Bool), s9 = .pointer (some ⟨X, 0, none⟩) ∧ s10 = .bool f1 ∧ l1.length = 20 ∧ Hid (Gr wr wx) ∧ Hid (At wx X (peerV l1).toArray 110))
                case first =>
                  refine wp_region_held_drew (S := Gr wr) (by kernel_rfl) ((Gr.refl wr).drew) (fun hHeld => ?_)
                  refine wpAnyH_take (i := 0) (v := ?_) rfl (by kernel_rfl) (by kernel_rfl) (by kernel_rfl) (fun _ _ _ h => h) (Or.inl ⟨by rfl, ?_⟩) (by assumption) ?_
                  rotate_left
                  · intro w hSw; go_simp; try with_reducible rfl
                  refine wpAnyH_take (i := 1) (v := ?_) rfl (by kernel_rfl) (by kernel_rfl) (by kernel_rfl) (fun _ _ _ h => h) (Or.inl ⟨by rfl, ?_⟩) (by assumption) ?_
                  rotate_left
                  · intro w hSw; go_simp; try with_reducible rfl
                  simp only [Act.put, List.getElem_toArray, List.getElem_cons_succ, List.getElem_cons_zero, List.setIfInBounds_toArray, List.set_cons_zero, List.set_cons_succ]
                  refine wpAnyH_take (i := 2) (v := _) rfl (by kernel_rfl) (by kernel_rfl) (by kernel_rfl) (fun _ _ _ h => h) (yieldsIf_load_mid (by rfl) 37 _ rfl M3 22 rfl (idV key) _ (fun W h => rangeAt_gr h Hkey.out) hu37 rfl hikey) (by assumption) ?_
                  refine wpAnyH_take (i := 3) (v := ?_) rfl (by kernel_rfl) (by kernel_rfl) (by kernel_rfl) (fun _ _ _ h => h) (Or.inl ⟨by rfl, ?_⟩) (by assumption) ?_
                  rotate_left
                  · intro w hSw; go_simp; try with_reducible rfl
                  refine wpAnyH_take (i := 4) (v := ?_) rfl (by kernel_rfl) (by kernel_rfl) (by kernel_rfl) (fun _ _ _ h => h) (Or.inl ⟨by rfl, ?_⟩) (by assumption) ?_
                  rotate_left
                  · intro w hSw; go_simp; try with_reducible rfl
                  simp only [Act.put, List.getElem_toArray, List.getElem_cons_succ, List.getElem_cons_zero, List.setIfInBounds_toArray, List.set_cons_zero, List.set_cons_succ]
                  refine wpAnyH_take (i := 5) (v := _) rfl (by kernel_rfl) (by kernel_rfl) (by kernel_rfl) (fun _ _ _ h => h) (yieldsIf_load_mid (by rfl) 37 _ rfl M3 22 rfl (idV key) _ (fun W h => rangeAt_gr h Hkey.out) hu37 rfl hikey) (by assumption) ?_
                  generalize wr.drew = V0 at hHeld ⊢
                  simp only [Act.put, List.getElem_toArray, List.getElem_cons_succ, List.getElem_cons_zero, List.setIfInBounds_toArray, List.set_cons_zero, List.set_cons_succ]
                  refine wpAnyH_ready (rs := [6, 11]) (by kernel_rfl) (by simp) ?_
                  refine (AllReadyH.cons rfl (fun K hK => ?_) (AllReadyH.cons rfl (fun K hK => ?_) AllReadyH.nil))
                  · go_simp
                    go_at_call 82
                    refine (HPv.out _ hHeld).mono ?_
                    rintro e V1 ⟨p1, p2, p3, rfl, hg3, hPO⟩
                    refine hK.out _ _ (hHeld.trans hg3) (fun hHeld2 => ?_)
                    clear hg3
                    clear hHeld hK K
                    have hHeld := hHeld2
                    clear hHeld2
                    refine wpAnyH_ready (rs := [7, 11]) (by kernel_rfl) (by simp) ?_
                    refine (AllReadyH.cons rfl (fun K hK => ?_) (AllReadyH.cons rfl (fun K hK => ?_) AllReadyH.nil))
                    · go_simp
                      go_at_call 81
                      refine (HNM.out _ hHeld p1 p2 p3 hPO).mono ?_
                      rintro e V2 ⟨⟨l1, f1, hl1, rfl⟩, hg3⟩
                      refine hK.out _ _ (hHeld.trans hg3) (fun hHeld2 => ?_)
                      clear hg3 hPO
                      clear hHeld hK K
                      have hHeld := hHeld2
                      clear hHeld2
                      refine wpAnyH_take (i := 8) (v := ?_) rfl (by kernel_rfl) (by kernel_rfl) (by kernel_rfl) (fun _ _ _ h => h) (Or.inl ⟨by rfl, ?_⟩) (by assumption) ?_
                      rotate_left
                      · intro w hSw; go_simp; try with_reducible rfl
                      refine wpAnyH_take (i := 9) (v := ?_) rfl (by kernel_rfl) (by kernel_rfl) (by kernel_rfl) (fun _ _ _ h => h) (Or.inl ⟨by rfl, ?_⟩) (by assumption) ?_
                      rotate_left
                      · intro w hSw; go_simp; try with_reducible rfl
                      refine wpAnyH_take (i := 10) (v := ?_) rfl (by kernel_rfl) (by kernel_rfl) (by kernel_rfl) (fun _ _ _ h => h) (Or.inl ⟨by rfl, ?_⟩) (by assumption) ?_
                      rotate_left
                      · intro w hSw; go_simp; try with_reducible rfl
                      simp only [Act.put, List.getElem_toArray, List.getElem_cons_succ, List.getElem_cons_zero, List.setIfInBounds_toArray, List.set_cons_zero, List.set_cons_succ]
                      refine wpAnyH_ready (rs := [11]) (by kernel_rfl) (by simp) ?_
                      refine (AllReadyH.cons rfl (fun K hK => ?_) AllReadyH.nil)
                      go_simp
                      refine hK.out _ _ (hHeld.alloc _) (fun hHeld2 => ?_)
                      obtain ⟨X, hXe⟩ : ∃ q, q = V2.heap.size := ⟨_, rfl⟩
                      have hXl : wr.heap.size ≤ X := by rw [hXe]; exact hHeld.size
                      have hX : At (V2.alloc (.cells zeroP 110)) X zeroP 110 := by rw [hXe]; exact At.new _ _ _
                      rw [← hXe, ← HZ.out]
                      rw [← HZ.out] at hHeld2
                      generalize V2.alloc (.cells zeroP 110) = V3 at *
                      clear hXe
                      clear hHeld hK K
                      have hHeld := hHeld2
                      clear hHeld2
                      refine wpAnyH_ready (rs := [12]) (by kernel_rfl) (by simp) ?_
                      refine (AllReadyH.cons rfl (fun K hK => ?_) AllReadyH.nil)
                      rw [if_pos (by rfl)]
                      refine wp_store_mid 110 _ _ rfl X 0 _ rfl rfl (At.pthere (l0 := List.replicate 20 0) hX (by simp) hl1) (peer_info hl1) (peer_one l1) ?_
                      refine hK.out _ _ (Gr.setCells X hXl _ _ _ hHeld) (fun hHeld2 => ?_)
                      have hX2 := At.pput (l0 := List.replicate 20 0) hX (by simp) hl1
                      generalize V3.setCells X 0 (peerV l1).toArray.toList = V4 at *
                      clear hHeld hK K
                      have hHeld := hHeld2
                      clear hHeld2
                      refine wpAnyH_ready (rs := [13]) (by kernel_rfl) (by simp) ?_
                      refine (AllReadyH.cons rfl (fun K hK => ?_) AllReadyH.nil)
                      go_simp
                      refine hK.out _ _ hHeld (fun hHeld2 => ?_)
                      clear hHeld hK K
                      have hHeld := hHeld2
                      clear hHeld2
                      refine wpAnyH_done (by kernel_rfl) ?_ _
                      go_wp2_with fail
                      go_meet
                      exact ⟨X, l1, f1, rfl, rfl, hl1, hHeld, hX2⟩
                    · go_simp
                      refine hK.out _ _ (hHeld.alloc _) (fun hHeld2 => ?_)
                      obtain ⟨X, hXe⟩ : ∃ q, q = V1.heap.size := ⟨_, rfl⟩
                      have hXl : wr.heap.size ≤ X := by rw [hXe]; exact hHeld.size
                      have hX : At (V1.alloc (.cells zeroP 110)) X zeroP 110 := by rw [hXe]; exact At.new _ _ _
                      replace hPO := hPO.gr ((Gr.refl V1).alloc (.cells zeroP 110))
                      rw [← hXe, ← HZ.out]
                      rw [← HZ.out] at hHeld2
                      generalize V1.alloc (.cells zeroP 110) = V6 at *
                      clear hXe
                      clear hHeld hK K
                      have hHeld := hHeld2
                      clear hHeld2
                      refine wpAnyH_ready (rs := [7]) (by kernel_rfl) (by simp) ?_
                      refine (AllReadyH.cons rfl (fun K hK => ?_) AllReadyH.nil)
                      go_simp
                      go_at_call 81
                      refine (HNM.out _ hHeld p1 p2 p3 hPO).mono ?_
                      rintro e V7 ⟨⟨l1, f1, hl1, rfl⟩, hg3⟩
                      refine hK.out _ _ (hHeld.trans hg3) (fun hHeld2 => ?_)
                      replace hX := hX.gr hg3
                      clear hg3 hPO
                      clear hHeld hK K
                      have hHeld := hHeld2
                      clear hHeld2
                      refine wpAnyH_take (i := 8) (v := ?_) rfl (by kernel_rfl) (by kernel_rfl) (by kernel_rfl) (fun _ _ _ h => h) (Or.inl ⟨by rfl, ?_⟩) (by assumption) ?_
                      rotate_left
                      · intro w hSw; go_simp; try with_reducible rfl
                      refine wpAnyH_take (i := 9) (v := ?_) rfl (by kernel_rfl) (by kernel_rfl) (by kernel_rfl) (fun _ _ _ h => h) (Or.inl ⟨by rfl, ?_⟩) (by assumption) ?_
                      rotate_left
                      · intro w hSw; go_simp; try with_reducible rfl
                      refine wpAnyH_take (i := 10) (v := ?_) rfl (by kernel_rfl) (by kernel_rfl) (by kernel_rfl) (fun _ _ _ h => h) (Or.inl ⟨by rfl, ?_⟩) (by assumption) ?_
                      rotate_left
                      · intro w hSw; go_simp; try with_reducible rfl
                      simp only [Act.put, List.getElem_toArray, List.getElem_cons_succ, List.getElem_cons_zero, List.setIfInBounds_toArray, List.set_cons_zero, List.set_cons_succ]
                      refine wpAnyH_ready (rs := [12]) (by kernel_rfl) (by simp) ?_
                      refine (AllReadyH.cons rfl (fun K hK => ?_) AllReadyH.nil)
                      rw [if_pos (by rfl)]
                      refine wp_store_mid 110 _ _ rfl X 0 _ rfl rfl (At.pthere (l0 := List.replicate 20 0) hX (by simp) hl1) (peer_info hl1) (peer_one l1) ?_
                      refine hK.out _ _ (Gr.setCells X hXl _ _ _ hHeld) (fun hHeld2 => ?_)
                      have hX2 := At.pput (l0 := List.replicate 20 0) hX (by simp) hl1
                      generalize V7.setCells X 0 (peerV l1).toArray.toList = V8 at *
                      clear hHeld hK K
                      have hHeld := hHeld2
                      clear hHeld2
                      refine wpAnyH_ready (rs := [13]) (by kernel_rfl) (by simp) ?_
                      refine (AllReadyH.cons rfl (fun K hK => ?_) AllReadyH.nil)
                      go_simp
                      refine hK.out _ _ hHeld (fun hHeld2 => ?_)
                      clear hHeld hK K
                      have hHeld := hHeld2
                      clear hHeld2
                      refine wpAnyH_done (by kernel_rfl) ?_ _
                      go_wp2_with fail
                      go_meet
                      exact ⟨X, l1, f1, rfl, rfl, hl1, hHeld, hX2⟩
                  · go_simp
                    refine hK.out _ _ (hHeld.alloc _) (fun hHeld2 => ?_)
                    obtain ⟨X, hXe⟩ : ∃ q, q = V0.heap.size := ⟨_, rfl⟩
                    have hXl : wr.heap.size ≤ X := by rw [hXe]; exact hHeld.size
                    have hX : At (V0.alloc (.cells zeroP 110)) X zeroP 110 := by rw [hXe]; exact At.new _ _ _
                    rw [← hXe, ← HZ.out]
                    rw [← HZ.out] at hHeld2
                    generalize V0.alloc (.cells zeroP 110) = V10 at *
                    clear hXe
                    clear hHeld hK K
                    have hHeld := hHeld2
                    clear hHeld2
                    refine wpAnyH_ready (rs := [6]) (by kernel_rfl) (by simp) ?_
                    refine (AllReadyH.cons rfl (fun K hK => ?_) AllReadyH.nil)
                    go_simp
                    go_at_call 82
                    refine (HPv.out _ hHeld).mono ?_
                    rintro e V11 ⟨p1, p2, p3, rfl, hg3, hPO⟩
                    refine hK.out _ _ (hHeld.trans hg3) (fun hHeld2 => ?_)
                    replace hX := hX.gr hg3
                    clear hg3
                    clear hHeld hK K
                    have hHeld := hHeld2
                    clear hHeld2
                    refine wpAnyH_ready (rs := [7]) (by kernel_rfl) (by simp) ?_
                    refine (AllReadyH.cons rfl (fun K hK => ?_) AllReadyH.nil)
                    go_simp
                    go_at_call 81
                    refine (HNM.out _ hHeld p1 p2 p3 hPO).mono ?_
                    rintro e V12 ⟨⟨l1, f1, hl1, rfl⟩, hg3⟩
                    refine hK.out _ _ (hHeld.trans hg3) (fun hHeld2 => ?_)
                    replace hX := hX.gr hg3
                    clear hg3 hPO
                    clear hHeld hK K
                    have hHeld := hHeld2
                    clear hHeld2
                    refine wpAnyH_take (i := 8) (v := ?_) rfl (by kernel_rfl) (by kernel_rfl) (by kernel_rfl) (fun _ _ _ h => h) (Or.inl ⟨by rfl, ?_⟩) (by assumption) ?_
                    rotate_left
                    · intro w hSw; go_simp; try with_reducible rfl
                    refine wpAnyH_take (i := 9) (v := ?_) rfl (by kernel_rfl) (by kernel_rfl) (by kernel_rfl) (fun _ _ _ h => h) (Or.inl ⟨by rfl, ?_⟩) (by assumption) ?_
                    rotate_left
                    · intro w hSw; go_simp; try with_reducible rfl
                    refine wpAnyH_take (i := 10) (v := ?_) rfl (by kernel_rfl) (by kernel_rfl) (by kernel_rfl) (fun _ _ _ h => h) (Or.inl ⟨by rfl, ?_⟩) (by assumption) ?_
                    rotate_left
                    · intro w hSw; go_simp; try with_reducible rfl
                    simp only [Act.put, List.getElem_toArray, List.getElem_cons_succ, List.getElem_cons_zero, List.setIfInBounds_toArray, List.set_cons_zero, List.set_cons_succ]
                    refine wpAnyH_ready (rs := [12]) (by kernel_rfl) (by simp) ?_
                    refine (AllReadyH.cons rfl (fun K hK => ?_) AllReadyH.nil)
                    rw [if_pos (by rfl)]
                    refine wp_store_mid 110 _ _ rfl X 0 _ rfl rfl (At.pthere (l0 := List.replicate 20 0) hX (by simp) hl1) (peer_info hl1) (peer_one l1) ?_
                    refine hK.out _ _ (Gr.setCells X hXl _ _ _ hHeld) (fun hHeld2 => ?_)
                    have hX2 := At.pput (l0 := List.replicate 20 0) hX (by simp) hl1
                    generalize V12.setCells X 0 (peerV l1).toArray.toList = V13 at *
                    clear hHeld hK K
                    have hHeld := hHeld2
                    clear hHeld2
                    refine wpAnyH_ready (rs := [13]) (by kernel_rfl) (by simp) ?_
                    refine (AllReadyH.cons rfl (fun K hK => ?_) AllReadyH.nil)
                    go_simp
                    refine hK.out _ _ hHeld (fun hHeld2 => ?_)
                    clear hHeld hK K
                    have hHeld := hHeld2
                    clear hHeld2
                    refine wpAnyH_done (by kernel_rfl) ?_ _
                    go_wp2_with fail
                    go_meet
                    exact ⟨X, l1, f1, rfl, rfl, hl1, hHeld, hX2⟩
                case rest =>
                  obtain ⟨X, l1, f1, rfl, rfl, hl1, gx, hX⟩ := hcut
                  have J5 : Aside (PeersAt wc (.slice va n vc) ids b o4 c4 ∧ RL TR NB base w0 w ob ms m (Msg (ring : Int) key stamp) (16 * d + k) ob' ms' lv wc) := ⟨J4.out.1.gr gx.out, J4.out.2.gr gx.out⟩
                  clear HPv HNM Hkey gx J4
                  cases f1 with
                  | false =>
                    have JN : Aside (PeersAt wc (.slice va n vc) ids b o4 c4 ∧ RL TR NB base w0 w ob ms m (Msg (ring : Int) key stamp) (16 * d + (k + 1)) ob' ms' lv wc) := ⟨J5.out.1, J5.out.2.mono (by omega)⟩
                    clear J5
                    go_wp2
                    go_roundg (16 - (k + 1))
                    case measure => omega
                    case rel => exact ⟨k + 1, by go_num, by omega, Nat.le_refl _, ob', ms', lv, JN⟩
                  | true =>
                    obtain ⟨w6, hw6⟩ : ∃ w6, w6 = wc.setCell ⟨M3, 64, none⟩ (.int .i64 (e1 : Int)) := ⟨_, rfl⟩
                    have J6 : RL TR NB base w0 w ob ms m (Msg (ring : Int) key stamp) (16 * d + k) ob' ms' (e1 : Int) w6 := by
                      rw [hw6, HM3.out]; exact J5.out.2.set hsz _
                    have a5 := J5.out.2.box
                    rw [← HM3.out] at a5
                    have q64 : wc.cell? ⟨M3, 64, none⟩ = some (.int .i64 lv) := by
                      rw [a5.cell]; unfold mL; simp [HMg.out.len]
                    have f64 := a5.frozen 64
                    have hXM : X ≠ M3 := At.ne hX.out a5 (by decide)
                    have hX6 : At w6 X (peerV l1).toArray 110 := by rw [hw6]; exact hX.out.setOther _ _ hXM
                    have a6 : At w6 M3 (mL m (e1 : Int)).toArray 94 := by rw [HM3.out]; exact J6.box
                    have hQ := HMg.out.level hkey (e1 : Int)
                    have LX := hide (peerload hX6.pall hl1)
                    have LM := hide (msgload a6 hQ.len)
                    have R6 := J6.rs.rel HB.out
                    have hML : c.MB ≠ TR := fun e => (HB.out.small _ (.inl e)).far (by omega) HB.out.rel.mem.rings
                    have hMo : ob' ≠ some c.MB := fun e => by
                      have h1 := J6.rs.hob _ e
                      have h2 := World.block_lt_of_cell? _ _ HB.out.rel.mem.rings
                      have h2' : c.MB < w0.heap.size := h2
                      omega
                    have hlm : (ms ++ ms').length ≤ 100000 := by
                      rw [List.length_append]
                      have := J6.len
                      omega
                    have H83 := hide (handOn_calls w6 TR base c.MB ob' (ms ++ ms') (mL m (e1 : Int)) l1 v8 hl1 J6.rs.log hlm (Nat.le_trans HB.out.base J6.rs.size) hQ.len hQ.one R6.net R6.per hML hMo)
                    have HJ6 := hide J6
                    have HW6 := hide hw6
                    have HJ5 := hide J5.out.1
                    have HRS5 := hide J5.out.2.rs
                    clear hw6 J6 J5 a5 hXM hX6 a6 R6 hML hMo hX hQ hlm
                    go_wp2_with (first | (rw [← HW6.out]; refine wpList_load_run rfl 110 _ rfl X 0 rfl _ LX.out ?_) | refine wpList_load_run rfl 94 _ rfl M3 0 rfl _ LM.out ?_)
                    refine H83.out.mono ?_
                    rintro e w7 ⟨rfl, ob2, hlog, hst⟩
                    have JN : Aside (PeersAt w7 (.slice va n vc) ids b o4 c4 ∧ RL TR NB base w0 w ob ms m (Msg (ring : Int) key stamp) (16 * d + (k + 1)) ob2 (ms' ++ [mL m (e1 : Int)]) (e1 : Int) w7) := by
                      have J7 := HJ6.out.sent (HMg.out.level hkey _) hlog hst
                      exact ⟨HRS5.out.peers J7.rs HJ5.out (Hb.out ids hl4), J7⟩
                    clear H83 LX LM HJ6 HJ5 HRS5 hlog hst HW6
                    go_wp2
                    go_roundg (16 - (k + 1))
                    case measure => omega
                    case rel => exact ⟨k + 1, by go_num, by omega, Nat.le_refl _, ob2, _, _, JN⟩
            · obtain rfl : k = 16 := by omega
              have LS1 := hide (LSf.out _ _ _ _ _ J.out.2)
              have H77 := hide (sharing_calls wr _ ids b o4 c4 J.out.1 hl100 hc4 c.self hself N4 hN160)
              go_wp2_with (first | refine wpList_load_run rfl 37 _ rfl c.MB 1 rfl _ LS1.out ?_)
              refine H77.out.mono ?_
              rintro e w3 ⟨⟨v8, ids8, o8, c8, rfl, hp8, hl8, hc8⟩, g3⟩
              have JN : Aside (PeersAt w3 v8 ids8 b o8 c8 ∧ RL TR NB base w0 w ob ms m (Msg (ring : Int) key stamp) (16 * (d + 1)) ob' ms' lv w3) := ⟨hp8, (J.out.2.gr g3).mono (by omega)⟩
              obtain ⟨va8, n8, vc8, rfl, hn8⟩ := hp8.form
              clear LS1 H77 hp8 g3 J
              go_wp2
              go_roundg (40 - (d + 1))
              case measure => omega
              case rel => exact ⟨d + 1, va8, n8, vc8, rfl, by go_num, by omega, Nat.le_refl _, ids8, o8, c8, ob', ms', lv, hn8, by omega, hc8, JN⟩
        · have hdz : ¬ ((d : Int) < 40) := by omega
          have JE := hide J.out.2
          clear J
          go_wp2
          refine bodyPost_end (results_none rfl _ _ _) rfl ?_
          exact ⟨rfl, ob', JE.out.st, ms', JE.out.rs.log, JE.out.all, by have := JE.out.len; omega⟩
      · have hnz : ¬ ((1 : Int) < (n : Int)) := by omega
        have JE := hide J.out.2
        clear J
        go_wp2
        refine bodyPost_end (results_none rfl _ _ _) rfl ?_
        exact ⟨rfl, ob', JE.out.st, ms', JE.out.rs.log, JE.out.all, by have := JE.out.len; omega⟩
end Go.Proofs.Ybulkapqu
