import Derived.Test.YbulkapquC13
namespace Go.Proofs.Ybulkapqu
open Go.RowKit Go.Sort

structure QSt (w : World) (l key : List UInt8) (W : World) : Prop where
  gr : Gr w W
  hA : At W w.heap.size (peerV l).toArray 110
  hB : At W (w.heap.size + 1) (idV key).toArray 37
theorem qSt_start (w : World) (l key : List UInt8) : QSt w l key ((w.alloc (.cells (peerV l).toArray 110)).alloc (.cells (idV key).toArray 37)) := by
  refine ⟨((Gr.refl w).alloc _).alloc _, (At.new w _ _).alloc _, ?_⟩
  have := At.new (w.alloc (.cells (peerV l).toArray 110)) (idV key).toArray 37
  rwa [World.size_alloc] at this

set_option maxHeartbeats 4000000 in
set_option maxRecDepth 1000000 in
theorem share1_calls (w : World) (K n : Nat) (hn : n ≤ 160) (hK : w.cell? ⟨K, 0, none⟩ = some (.int .i64 (n : Int))) (l key : List UInt8) (hl : l.length = 20) (hkey : key.length = 20) :
    Calls Yba.prog 100 #[.agg (peerV l).toArray, .agg (idV key).toArray, .pointer (some ⟨K, 0, none⟩)] w fun e w' => e = .returned (.int .i64 (prefY l key n)) ∧ Gr w w' := by
  obtain ⟨S, hS⟩ : ∃ S, S = w.heap.size := ⟨_, rfl⟩
  obtain ⟨w1, hw1⟩ : ∃ w1, w1 = (w.alloc (.cells (peerV l).toArray 110)).alloc (.cells (idV key).toArray 37) := ⟨_, rfl⟩
  have Q1 : QSt w l key w1 := hw1 ▸ qSt_start w l key
  have c1 := cell_gr Q1.gr hK
  have LA := hide (idload (range_pre Q1.hA.pall) hl)
  have LB := hide (idload Q1.hB.all hkey)
  rw [← hS] at LA LB
  have HC := hide (prefix_calls w1 l key hl hkey n hn)
  have HG := hide Q1.gr
  have HW := hide hw1
  have HS := hide hS
  generalize prefY l key n = y at *
  clear Q1 hw1 hS hK
  go_enter Yba.func100, Yba.ntmps100
  go_upto_region 1 with fail
  rw [← HW.out, ← HS.out]
  go_wp2_with (first | refine wpList_load_run rfl 37 _ rfl S 0 rfl _ LA.out ?_ | refine wpList_load_run rfl 37 _ rfl (S + 1) 0 rfl _ LB.out ?_)
  refine HC.out.mono ?_
  rintro e w2 ⟨rfl, g2⟩
  have HG2 := hide (HG.out.trans g2)
  clear HG g2 HC c1 LA LB
  go_wp2
  go_ret
  exact ⟨rfl, HG2.out⟩

set_option maxHeartbeats 4000000 in
set_option maxRecDepth 1000000 in
theorem near1_calls (w : World) (l key : List UInt8) (hl : l.length = 20) (hkey : key.length = 20) :
    Calls Yba.prog 103 #[.agg (peerV l).toArray, .agg (idV key).toArray] w fun e w' => e = .returned (.int .i64 (Lib.compareBytes l key)) ∧ Gr w w' := by
  obtain ⟨S, hS⟩ : ∃ S, S = w.heap.size := ⟨_, rfl⟩
  obtain ⟨w1, hw1⟩ : ∃ w1, w1 = (w.alloc (.cells (peerV l).toArray 110)).alloc (.cells (idV key).toArray 37) := ⟨_, rfl⟩
  have Q1 : QSt w l key w1 := hw1 ▸ qSt_start w l key
  have LA := hide (idload (range_pre Q1.hA.pall) hl)
  have LB := hide (idload Q1.hB.all hkey)
  rw [← hS] at LA LB
  have HC : Hid (Calls Yba.prog 17 #[.agg (idV l).toArray, .agg (idV key).toArray] w1 fun e w' => e = .returned (.int .i64 (Lib.compareBytes l key)) ∧ Gr w1 w') := cmp_grown w1 l key hl hkey
  have HG := hide Q1.gr
  have HW := hide hw1
  have HS := hide hS
  generalize Lib.compareBytes l key = y at *
  clear Q1 hw1 hS
  go_enter Yba.func103, Yba.ntmps103
  go_upto_region 1 with fail
  rw [← HW.out, ← HS.out]
  go_wp2_with (first | refine wpList_load_run rfl 37 _ rfl S 0 rfl _ LA.out ?_ | refine wpList_load_run rfl 37 _ rfl (S + 1) 0 rfl _ LB.out ?_)
  refine HC.out.mono ?_
  rintro e w2 ⟨rfl, g2⟩
  have HG2 := hide (HG.out.trans g2)
  clear HG g2 HC LA LB
  go_wp2
  go_ret
  exact ⟨rfl, HG2.out⟩

set_option maxHeartbeats 4000000 in
set_option maxRecDepth 1000000 in
/-- sort.Search: a place within the bounds. -/
theorem search_calls (w : World) (n : Nat) (hn : n ≤ 100000) (p1 p2 p3 p4 : Value) (f : Nat → Bool)
    (hc : ∀ W, Gr w W → ∀ j, j < n → Calls Yba.prog 102 #[.int .i64 (j : Int), p1, p2, p3, p4] W fun e w' => e = .returned (.bool (f j)) ∧ Gr W w') :
    Calls Yba.prog 101 #[.int .i64 (n : Int), .func (.func 102) #[] #[p1, p2, p3, p4]] w fun e w' => (∃ p : Nat, p ≤ n ∧ e = .returned (.int .i64 (p : Int))) ∧ Gr w w' := by
  have HC := hide hc
  clear hc
  go_enter Yba.func101, Yba.ntmps101
  go_wp2
  go_loopg [5, 6, 7] n (fun gg s5 s6 s7 wr => ∃ i j : Nat, s5 = .int .i64 i ∧ s6 = .int .i64 j ∧ i ≤ j ∧ j ≤ n ∧ j - i ≤ gg ∧ Aside (Gr w wr))
  case atStart => exact ⟨0, n, rfl, rfl, Nat.zero_le _, Nat.le_refl _, by omega, Gr.refl _⟩
  case round =>
    obtain ⟨lo, hi, rfl, rfl, hlh, hhn, hg, GW⟩ := hrel
    by_cases hlt : lo < hi
    · obtain ⟨md, hmd⟩ : ∃ md, md = (lo + hi) / 2 := ⟨_, rfl⟩
      have hcl := HC.out wr GW.out md (by omega)
      rw [show (md : Int) = ((lo : Int) + (hi : Int)) / 2 by omega] at hcl
      obtain ⟨fb, hfb⟩ : ∃ fb, f md = fb := ⟨_, rfl⟩
      rw [hfb] at hcl
      have HCl := hide hcl
      have hlz : (lo:Int) < (hi:Int) := by omega
      have HM := hide hmd
      clear hcl hmd hfb
      cases fb with
      | false =>
        go_wp2_with fail
        refine HCl.out.mono ?_
        rintro e w2 ⟨rfl, g2⟩
        have GW2 : Aside (Gr w w2) := GW.out.trans g2
        clear GW g2 HCl
        go_wp2
        go_roundg (hi - (md + 1))
        case measure => have := HM.out; omega
        case rel =>
          have e1 := HM.out
          exact ⟨md + 1, hi, by rw [show ((lo : Int) + (hi : Int)) / 2 + 1 = ((md + 1 : Nat) : Int) by omega], rfl, by omega, hhn, Nat.le_refl _, GW2⟩
      | true =>
        go_wp2_with fail
        refine HCl.out.mono ?_
        rintro e w2 ⟨rfl, g2⟩
        have GW2 : Aside (Gr w w2) := GW.out.trans g2
        clear GW g2 HCl
        go_wp2
        go_roundg (md - lo)
        case measure => have := HM.out; omega
        case rel =>
          have e1 := HM.out
          exact ⟨lo, md, rfl, by rw [show ((lo : Int) + (hi : Int)) / 2 = ((md : Nat) : Int) by omega], by omega, by omega, Nat.le_refl _, GW2⟩
    · obtain rfl : lo = hi := by omega
      go_wp2
      go_ret
      exact ⟨⟨lo, hhn, rfl⟩, GW.out⟩

set_option maxHeartbeats 4000000 in
set_option maxRecDepth 1000000 in
theorem share2_calls (w : World) (v : Value) (ids : List (List UInt8)) (b o cap : Nat) (hp : PeersAt w v ids b o cap) (hlen : ids.length ≤ 100000) (key : List UInt8) (hkey : key.length = 20) (n lo : Nat) (hn : n ≤ 160) (P1 P2 P3 P4 : Nat)
    (c1 : w.cell? ⟨P1, 0, none⟩ = some v) (c2 : w.cell? ⟨P2, 0, none⟩ = some (.int .i64 (lo : Int))) (c3 : w.rangeAt P3 0 (idV key)) (c4 : w.cell? ⟨P4, 0, none⟩ = some (.int .i64 (n : Int))) (j : Nat) (hj : lo + j < ids.length) :
    Calls Yba.prog 102 #[.int .i64 (j : Int), .pointer (some ⟨P1, 0, none⟩), .pointer (some ⟨P2, 0, none⟩), .pointer (some ⟨P3, 0, none⟩), .pointer (some ⟨P4, 0, none⟩)] w fun e w' => e = .returned (.bool (decide (0 < prefY (ids.getD (lo + j) []) key n))) ∧ Gr w w' := by
  have mixed : Yba.prog.follows .mixedOrders = true := by kernel_rfl
  obtain ⟨l, hl⟩ : ∃ l, ids[lo + j]? = some l := ⟨_, List.getElem?_eq_getElem hj⟩
  obtain rfl : v = .slice (some ⟨b, o, none⟩) ids.length cap := by
    rcases hp.val with h | ⟨h, h'⟩
    · exact h
    · rw [h'] at hl; simp at hl
  have hl20 := hp.len l (List.mem_of_getElem? hl)
  rw [getD_of hl]
  have d1 := fun k os => cell_gr ((Gr.refl w).grown k os) c1
  have d2 := fun k os => cell_gr ((Gr.refl w).grown k os) c2
  have d4 := fun k os => cell_gr ((Gr.refl w).grown k os) c4
  have LK := hide (fun k os => idload (rangeAt_gr ((Gr.refl w).grown k os) c3) hkey)
  have LP := hide (fun k os => idload (range_pre (rangeAt_gr ((Gr.refl w).grown k os) (hp.row (lo + j) l hl))) hl20)
  have hcc := fun k os => prefix_calls (grow (w.drewN k) os) l key hl20 hkey n hn
  generalize prefY l key n = y at hcc ⊢
  have HC := hide hcc
  generalize hm : ids.length = m at *
  have hjz : (0:Int) ≤ (lo : Int) + (j : Int) := by omega
  have hjz2 : (lo : Int) + (j : Int) < (m : Int) := by omega
  have hwz : IntKind.i64.wrap ((lo : Int) + (j : Int)) = (lo : Int) + (j : Int) := by rw [IntKind.wrap_i64]; omega
  have htz : ((lo : Int) + (j : Int)).toNat = lo + j := by omega
  clear hp c1 c2 c3 c4 hcc hl hm
  go_enter Yba.func102, Yba.ntmps102
  go_wp2_with fail
  refine wp_region_quiet_grown (by assumption) (by kernel_rfl) ?_
  iterate 6 quiet_step (fail)
  refine wpQuiet_load_mid rfl 37 _ rfl _ _ rfl _ (fun w' hw' => by obtain ⟨p, rfl⟩ := hw'; exact LP.out _ _) ?_
  refine wpQuiet_load_mid rfl 37 _ rfl _ _ rfl _ (fun w' hw' => by obtain ⟨p, rfl⟩ := hw'; exact LK.out _ _) ?_
  quiet_step (fail)
  quiet_step ((go_at_call 98; refine Calls.grown_of' (HC.out _ _)))
  iterate 2 quiet_step (fail)
  refine wpQuiet_nil ?_
  intro _ hw'
  obtain ⟨⟨nq, osq⟩, hw''⟩ := hw'
  subst hw''
  have HG := hide ((Gr.refl w).grown nq osq)
  clear d1 d2 d4 LK LP HC
  go_wp2
  go_ret
  exact ⟨rfl, HG.out⟩
end Go.Proofs.Ybulkapqu
