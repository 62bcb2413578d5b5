import Derived.Test.YbulkapquC12
namespace Go.Proofs.Ybulkapqu
open Go.RowKit Go.Sort

set_option maxHeartbeats 4000000 in
set_option maxRecDepth 1000000 in
theorem bsfA_calls (w : World) (K : Nat) (v : Value) (ids : List (List UInt8)) (b o cap : Nat) (hp : PeersAt w v ids b o cap) (hlen : ids.length ≤ 100000) (key : List UInt8) (hkey : key.length = 20) (f : List UInt8 → Int)
    (hc : ∀ W, Gr w W → ∀ l ∈ ids, Calls Yba.prog 100 #[.agg (peerV l).toArray, .agg (idV key).toArray, .pointer (some ⟨K, 0, none⟩)] W fun e w' => e = .returned (.int .i64 (f l)) ∧ Gr W w') :
    Calls Yba.prog 99 #[v, .agg (idV key).toArray, .func (.func 100) #[] #[.pointer (some ⟨K, 0, none⟩)]] w fun e w' => (∃ (p : Nat) (q : Bool), p ≤ ids.length ∧ e = .returned (.tuple #[.int .i64 (p : Int), .bool q])) ∧ Gr w w' := by
  have mixed : Yba.prog.follows .mixedOrders = true := by kernel_rfl
  obtain ⟨va, n, vc, rfl⟩ : ∃ a n c, v = .slice a n c := by
    rcases hp.val with h | ⟨h, _⟩
    · exact ⟨_, _, _, h⟩
    · exact ⟨_, _, _, h⟩
  have hn : ids.length = n := by
    rcases hp.val with h | ⟨h, h'⟩
    · injection h with _ h2 _; rw [h2]
    · injection h with _ h2 _; rw [h2, h']; rfl
  have hva : 0 < n → va = some ⟨b, o, none⟩ := fun h0 => by
    rcases hp.val with h | ⟨h, h'⟩
    · injection h with h1 _ _
    · rw [h'] at hn; simp at hn; omega
  obtain ⟨S, hS⟩ : ∃ S, S = w.heap.size := ⟨_, rfl⟩
  obtain ⟨w1, hw1⟩ : ∃ w1, w1 = w.alloc (.cells (idV key).toArray 37) := ⟨_, rfl⟩
  have g1 : Gr w w1 := by rw [hw1]; exact (Gr.refl w).alloc _
  have aK : At w1 S (idV key).toArray 37 := by rw [hw1, hS]; exact At.new w _ _
  have HLK : Hid (∀ W, Gr w1 W → (loadVar 37 ⟨S, 0, none⟩).run Yba.prog W = .ok (.agg (idV key).toArray) W) := fun W hW => idload (aK.gr hW).all hkey
  have HLP : Hid (∀ W, Gr w1 W → ∀ (i : Nat) (l : List UInt8), ids[i]? = some l → (loadVar 110 ⟨b, o + i * 24, none⟩).run Yba.prog W = .ok (.agg (peerV l).toArray) W) := fun W hW i l hl => peerload (rangeAt_gr (g1.trans hW) (hp.row i l hl)) (hp.len l (List.mem_of_getElem? hl))
  have HC : Hid (∀ W, Gr w1 W → ∀ l ∈ ids, Calls Yba.prog 100 #[.agg (peerV l).toArray, .agg (idV key).toArray, .pointer (some ⟨K, 0, none⟩)] W fun e w' => e = .returned (.int .i64 (f l)) ∧ Gr W w') := fun W hW => hc W (g1.trans hW)
  have HW := hide hw1
  have HS := hide hS
  have HG := hide g1
  have HNn := hide hn
  have HVA := hide hva
  rw [hn]
  have hn2 : n ≤ 100000 := by omega
  clear hp hc hw1 hS g1 aK hn hva hlen
  go_enter Yba.func99, Yba.ntmps99
  go_wp2
  rw [← HW.out, ← HS.out]
  go_loopg [9, 10, 11] n (fun gg s9 s10 s11 wr => ∃ lo hi : Nat, s9 = .int .i64 lo ∧ s10 = .int .i64 hi ∧ lo ≤ hi ∧ hi ≤ n ∧ hi - lo ≤ gg ∧ Aside (Gr w1 wr))
  case atStart => exact ⟨0, n, rfl, rfl, Nat.zero_le _, Nat.le_refl _, by omega, Gr.refl _⟩
  case round =>
    obtain ⟨lo, hi, rfl, rfl, hlh, hhn, hg, GW⟩ := hrel
    by_cases hlt : lo < hi
    · obtain ⟨md, hmd⟩ : ∃ md, md = (lo + hi) / 2 := ⟨_, rfl⟩
      obtain ⟨l, hl⟩ : ∃ l, ids[md]? = some l := ⟨_, List.getElem?_eq_getElem (by have := HNn.out; omega)⟩
      obtain rfl := HVA.out (by omega)
      have LP := hide (fun p os => HLP.out _ (GW.out.grown p os) md l hl)
      have LK := hide (fun p os => HLK.out _ (GW.out.grown p os))
      have hcl := fun p os => HC.out _ (GW.out.grown p os) l (List.mem_of_getElem? hl)
      generalize f l = y at hcl
      have HCl := hide hcl
      have hmz : (0:Int) ≤ ((lo:Int) + (hi:Int)) / 2 := by omega
      have hmn : ((lo:Int) + (hi:Int)) / 2 < (n:Int) := by omega
      have hmt : (((lo:Int) + (hi:Int)) / 2).toNat = md := by omega
      have hlz : (lo:Int) < (hi:Int) := by omega
      have HM := hide hmd
      clear hcl hl hmd
      by_cases hy : y < 0
      · have hyd : decide (y < 0) = true := decide_eq_true hy
        go_wp2_with fail
        refine wp_region_quiet_grown (by assumption) (by kernel_rfl) ?_
        iterate 4 quiet_step (fail)
        refine wpQuiet_load_mid rfl 110 _ rfl _ _ rfl _ (fun w' hw' => by obtain ⟨p, rfl⟩ := hw'; exact LP.out _ _) ?_
        refine wpQuiet_load_mid rfl 37 _ rfl _ _ rfl _ (fun w' hw' => by obtain ⟨p, rfl⟩ := hw'; exact LK.out _ _) ?_
        quiet_step ((go_at_call 100; refine Calls.grown_of' (HCl.out _ _)))
        quiet_step (fail)
        refine wpQuiet_nil ?_
        intro _ hw'
        obtain ⟨⟨nq, osq⟩, hw''⟩ := hw'
        subst hw''
        have GW2 : Aside (Gr w1 (grow (wr.drewN nq) osq)) := GW.out.grown nq osq
        clear LP LK HCl GW
        go_wp2
        go_roundg (hi - (md + 1))
        case measure => have := HM.out; omega
        case rel =>
          have e1 := HM.out
          exact ⟨md + 1, hi, by rw [show ((lo : Int) + (hi : Int)) / 2 + 1 = ((md + 1 : Nat) : Int) by omega], rfl, by omega, hhn, Nat.le_refl _, GW2⟩
      · have hyd : decide (y < 0) = false := decide_eq_false hy
        go_wp2_with fail
        refine wp_region_quiet_grown (by assumption) (by kernel_rfl) ?_
        iterate 4 quiet_step (fail)
        refine wpQuiet_load_mid rfl 110 _ rfl _ _ rfl _ (fun w' hw' => by obtain ⟨p, rfl⟩ := hw'; exact LP.out _ _) ?_
        refine wpQuiet_load_mid rfl 37 _ rfl _ _ rfl _ (fun w' hw' => by obtain ⟨p, rfl⟩ := hw'; exact LK.out _ _) ?_
        quiet_step ((go_at_call 100; refine Calls.grown_of' (HCl.out _ _)))
        quiet_step (fail)
        refine wpQuiet_nil ?_
        intro _ hw'
        obtain ⟨⟨nq, osq⟩, hw''⟩ := hw'
        subst hw''
        have GW2 : Aside (Gr w1 (grow (wr.drewN nq) osq)) := GW.out.grown nq osq
        clear LP LK HCl GW
        go_wp2
        go_roundg (md - lo)
        case measure => have := HM.out; omega
        case rel =>
          have e1 := HM.out
          exact ⟨lo, md, rfl, by rw [show ((lo : Int) + (hi : Int)) / 2 = ((md : Nat) : Int) by omega], by omega, by omega, Nat.le_refl _, GW2⟩
    · obtain rfl : lo = hi := by omega
      by_cases hln : lo < n
      · obtain ⟨l, hl⟩ : ∃ l, ids[lo]? = some l := ⟨_, List.getElem?_eq_getElem (by have := HNn.out; omega)⟩
        obtain rfl := HVA.out (by omega)
        have LP := hide (fun p os => HLP.out _ (GW.out.grown p os) lo l hl)
        have LK := hide (fun p os => HLK.out _ (GW.out.grown p os))
        have hcl := fun p os => HC.out _ (GW.out.grown p os) l (List.mem_of_getElem? hl)
        generalize f l = y at hcl
        have HCl := hide hcl
        have hlz : (lo:Int) < (n:Int) := by omega
        have hld : decide ((lo:Int) < (n:Int)) = true := decide_eq_true hlz
        have hlz0 : (0:Int) ≤ (lo:Int) := by omega
        clear hcl hl
        obtain ⟨yb, hyb⟩ : ∃ yb, (y == 0) = yb := ⟨_, rfl⟩
        go_wp2_with fail
        refine wp_region_quiet_grown (by assumption) (by kernel_rfl) ?_
        iterate 9 quiet_step (fail)
        go_big_quiet_want
        refine quiet_load_run 110 _ rfl _ _ rfl _ (fun w' hw' => by obtain ⟨p, rfl⟩ := hw'; exact LP.out _ _) ?_
        simp only [Act.put, List.setIfInBounds_toArray, List.set_cons_zero, List.set_cons_succ]
        go_big_quiet_on
        go_big_quiet_want
        refine quiet_load_run 37 _ rfl _ _ rfl _ (fun w' hw' => by obtain ⟨p, rfl⟩ := hw'; exact LK.out _ _) ?_
        simp only [Act.put, List.setIfInBounds_toArray, List.set_cons_zero, List.set_cons_succ]
        go_big_quiet_on
        quiet_step ((go_at_call 100; refine Calls.grown_of' (HCl.out _ _)))
        repeat (quiet_step (fail))
        refine wpQuiet_nil ?_
        intro _ hw'
        obtain ⟨⟨nq, osq⟩, hw''⟩ := hw'
        subst hw''
        have HG2 := hide (HG.out.trans (GW.out.grown nq osq))
        clear LP LK HCl GW
        go_wp2
        go_ret2
        exact ⟨⟨lo, yb, hhn, rfl⟩, HG2.out⟩
      · obtain rfl : lo = n := by omega
        have hld : decide ((lo:Int) < (lo:Int)) = false := by simp
        go_wp2_with fail
        refine wp_region_quiet_grown (by assumption) (by kernel_rfl) ?_
        iterate 5 quiet_step (fail)
        iterate 8 go_big_quiet_skip
        repeat (quiet_step (fail))
        refine wpQuiet_nil ?_
        intro _ hw'
        obtain ⟨⟨nq, osq⟩, hw''⟩ := hw'
        subst hw''
        have HG2 := hide (HG.out.trans (GW.out.grown nq osq))
        clear GW
        go_wp2
        go_ret2
        exact ⟨⟨lo, false, hhn, rfl⟩, HG2.out⟩

set_option maxHeartbeats 4000000 in
set_option maxRecDepth 1000000 in
theorem bsfB_calls (w : World)  (v : Value) (ids : List (List UInt8)) (b o cap : Nat) (hp : PeersAt w v ids b o cap) (hlen : ids.length ≤ 100000) (key : List UInt8) (hkey : key.length = 20) (f : List UInt8 → Int)
    (hc : ∀ W, Gr w W → ∀ l ∈ ids, Calls Yba.prog 103 #[.agg (peerV l).toArray, .agg (idV key).toArray] W fun e w' => e = .returned (.int .i64 (f l)) ∧ Gr W w') :
    Calls Yba.prog 99 #[v, .agg (idV key).toArray, .func (.func 103) #[] #[]] w fun e w' => (∃ (p : Nat) (q : Bool), p ≤ ids.length ∧ e = .returned (.tuple #[.int .i64 (p : Int), .bool q])) ∧ Gr w w' := by
  have mixed : Yba.prog.follows .mixedOrders = true := by kernel_rfl
  obtain ⟨va, n, vc, rfl⟩ : ∃ a n c, v = .slice a n c := by
    rcases hp.val with h | ⟨h, _⟩
    · exact ⟨_, _, _, h⟩
    · exact ⟨_, _, _, h⟩
  have hn : ids.length = n := by
    rcases hp.val with h | ⟨h, h'⟩
    · injection h with _ h2 _; rw [h2]
    · injection h with _ h2 _; rw [h2, h']; rfl
  have hva : 0 < n → va = some ⟨b, o, none⟩ := fun h0 => by
    rcases hp.val with h | ⟨h, h'⟩
    · injection h with h1 _ _
    · rw [h'] at hn; simp at hn; omega
  obtain ⟨S, hS⟩ : ∃ S, S = w.heap.size := ⟨_, rfl⟩
  obtain ⟨w1, hw1⟩ : ∃ w1, w1 = w.alloc (.cells (idV key).toArray 37) := ⟨_, rfl⟩
  have g1 : Gr w w1 := by rw [hw1]; exact (Gr.refl w).alloc _
  have aK : At w1 S (idV key).toArray 37 := by rw [hw1, hS]; exact At.new w _ _
  have HLK : Hid (∀ W, Gr w1 W → (loadVar 37 ⟨S, 0, none⟩).run Yba.prog W = .ok (.agg (idV key).toArray) W) := fun W hW => idload (aK.gr hW).all hkey
  have HLP : Hid (∀ W, Gr w1 W → ∀ (i : Nat) (l : List UInt8), ids[i]? = some l → (loadVar 110 ⟨b, o + i * 24, none⟩).run Yba.prog W = .ok (.agg (peerV l).toArray) W) := fun W hW i l hl => peerload (rangeAt_gr (g1.trans hW) (hp.row i l hl)) (hp.len l (List.mem_of_getElem? hl))
  have HC : Hid (∀ W, Gr w1 W → ∀ l ∈ ids, Calls Yba.prog 103 #[.agg (peerV l).toArray, .agg (idV key).toArray] W fun e w' => e = .returned (.int .i64 (f l)) ∧ Gr W w') := fun W hW => hc W (g1.trans hW)
  have HW := hide hw1
  have HS := hide hS
  have HG := hide g1
  have HNn := hide hn
  have HVA := hide hva
  rw [hn]
  have hn2 : n ≤ 100000 := by omega
  clear hp hc hw1 hS g1 aK hn hva hlen
  go_enter Yba.func99, Yba.ntmps99
  go_wp2
  rw [← HW.out, ← HS.out]
  go_loopg [9, 10, 11] n (fun gg s9 s10 s11 wr => ∃ lo hi : Nat, s9 = .int .i64 lo ∧ s10 = .int .i64 hi ∧ lo ≤ hi ∧ hi ≤ n ∧ hi - lo ≤ gg ∧ Aside (Gr w1 wr))
  case atStart => exact ⟨0, n, rfl, rfl, Nat.zero_le _, Nat.le_refl _, by omega, Gr.refl _⟩
  case round =>
    obtain ⟨lo, hi, rfl, rfl, hlh, hhn, hg, GW⟩ := hrel
    by_cases hlt : lo < hi
    · obtain ⟨md, hmd⟩ : ∃ md, md = (lo + hi) / 2 := ⟨_, rfl⟩
      obtain ⟨l, hl⟩ : ∃ l, ids[md]? = some l := ⟨_, List.getElem?_eq_getElem (by have := HNn.out; omega)⟩
      obtain rfl := HVA.out (by omega)
      have LP := hide (fun p os => HLP.out _ (GW.out.grown p os) md l hl)
      have LK := hide (fun p os => HLK.out _ (GW.out.grown p os))
      have hcl := fun p os => HC.out _ (GW.out.grown p os) l (List.mem_of_getElem? hl)
      generalize f l = y at hcl
      have HCl := hide hcl
      have hmz : (0:Int) ≤ ((lo:Int) + (hi:Int)) / 2 := by omega
      have hmn : ((lo:Int) + (hi:Int)) / 2 < (n:Int) := by omega
      have hmt : (((lo:Int) + (hi:Int)) / 2).toNat = md := by omega
      have hlz : (lo:Int) < (hi:Int) := by omega
      have HM := hide hmd
      clear hcl hl hmd
      by_cases hy : y < 0
      · have hyd : decide (y < 0) = true := decide_eq_true hy
        go_wp2_with fail
        refine wp_region_quiet_grown (by assumption) (by kernel_rfl) ?_
        iterate 4 quiet_step (fail)
        refine wpQuiet_load_mid rfl 110 _ rfl _ _ rfl _ (fun w' hw' => by obtain ⟨p, rfl⟩ := hw'; exact LP.out _ _) ?_
        refine wpQuiet_load_mid rfl 37 _ rfl _ _ rfl _ (fun w' hw' => by obtain ⟨p, rfl⟩ := hw'; exact LK.out _ _) ?_
        quiet_step ((go_at_call 103; refine Calls.grown_of' (HCl.out _ _)))
        quiet_step (fail)
        refine wpQuiet_nil ?_
        intro _ hw'
        obtain ⟨⟨nq, osq⟩, hw''⟩ := hw'
        subst hw''
        have GW2 : Aside (Gr w1 (grow (wr.drewN nq) osq)) := GW.out.grown nq osq
        clear LP LK HCl GW
        go_wp2
        go_roundg (hi - (md + 1))
        case measure => have := HM.out; omega
        case rel =>
          have e1 := HM.out
          exact ⟨md + 1, hi, by rw [show ((lo : Int) + (hi : Int)) / 2 + 1 = ((md + 1 : Nat) : Int) by omega], rfl, by omega, hhn, Nat.le_refl _, GW2⟩
      · have hyd : decide (y < 0) = false := decide_eq_false hy
        go_wp2_with fail
        refine wp_region_quiet_grown (by assumption) (by kernel_rfl) ?_
        iterate 4 quiet_step (fail)
        refine wpQuiet_load_mid rfl 110 _ rfl _ _ rfl _ (fun w' hw' => by obtain ⟨p, rfl⟩ := hw'; exact LP.out _ _) ?_
        refine wpQuiet_load_mid rfl 37 _ rfl _ _ rfl _ (fun w' hw' => by obtain ⟨p, rfl⟩ := hw'; exact LK.out _ _) ?_
        quiet_step ((go_at_call 103; refine Calls.grown_of' (HCl.out _ _)))
        quiet_step (fail)
        refine wpQuiet_nil ?_
        intro _ hw'
        obtain ⟨⟨nq, osq⟩, hw''⟩ := hw'
        subst hw''
        have GW2 : Aside (Gr w1 (grow (wr.drewN nq) osq)) := GW.out.grown nq osq
        clear LP LK HCl GW
        go_wp2
        go_roundg (md - lo)
        case measure => have := HM.out; omega
        case rel =>
          have e1 := HM.out
          exact ⟨lo, md, rfl, by rw [show ((lo : Int) + (hi : Int)) / 2 = ((md : Nat) : Int) by omega], by omega, by omega, Nat.le_refl _, GW2⟩
    · obtain rfl : lo = hi := by omega
      by_cases hln : lo < n
      · obtain ⟨l, hl⟩ : ∃ l, ids[lo]? = some l := ⟨_, List.getElem?_eq_getElem (by have := HNn.out; omega)⟩
        obtain rfl := HVA.out (by omega)
        have LP := hide (fun p os => HLP.out _ (GW.out.grown p os) lo l hl)
        have LK := hide (fun p os => HLK.out _ (GW.out.grown p os))
        have hcl := fun p os => HC.out _ (GW.out.grown p os) l (List.mem_of_getElem? hl)
        generalize f l = y at hcl
        have HCl := hide hcl
        have hlz : (lo:Int) < (n:Int) := by omega
        have hld : decide ((lo:Int) < (n:Int)) = true := decide_eq_true hlz
        have hlz0 : (0:Int) ≤ (lo:Int) := by omega
        clear hcl hl
        obtain ⟨yb, hyb⟩ : ∃ yb, (y == 0) = yb := ⟨_, rfl⟩
        go_wp2_with fail
        refine wp_region_quiet_grown (by assumption) (by kernel_rfl) ?_
        iterate 9 quiet_step (fail)
        go_big_quiet_want
        refine quiet_load_run 110 _ rfl _ _ rfl _ (fun w' hw' => by obtain ⟨p, rfl⟩ := hw'; exact LP.out _ _) ?_
        simp only [Act.put, List.setIfInBounds_toArray, List.set_cons_zero, List.set_cons_succ]
        go_big_quiet_on
        go_big_quiet_want
        refine quiet_load_run 37 _ rfl _ _ rfl _ (fun w' hw' => by obtain ⟨p, rfl⟩ := hw'; exact LK.out _ _) ?_
        simp only [Act.put, List.setIfInBounds_toArray, List.set_cons_zero, List.set_cons_succ]
        go_big_quiet_on
        quiet_step ((go_at_call 103; refine Calls.grown_of' (HCl.out _ _)))
        repeat (quiet_step (fail))
        refine wpQuiet_nil ?_
        intro _ hw'
        obtain ⟨⟨nq, osq⟩, hw''⟩ := hw'
        subst hw''
        have HG2 := hide (HG.out.trans (GW.out.grown nq osq))
        clear LP LK HCl GW
        go_wp2
        go_ret2
        exact ⟨⟨lo, yb, hhn, rfl⟩, HG2.out⟩
      · obtain rfl : lo = n := by omega
        have hld : decide ((lo:Int) < (lo:Int)) = false := by simp
        go_wp2_with fail
        refine wp_region_quiet_grown (by assumption) (by kernel_rfl) ?_
        iterate 5 quiet_step (fail)
        iterate 8 go_big_quiet_skip
        repeat (quiet_step (fail))
        refine wpQuiet_nil ?_
        intro _ hw'
        obtain ⟨⟨nq, osq⟩, hw''⟩ := hw'
        subst hw''
        have HG2 := hide (HG.out.trans (GW.out.grown nq osq))
        clear GW
        go_wp2
        go_ret2
        exact ⟨⟨lo, false, hhn, rfl⟩, HG2.out⟩
end Go.Proofs.Ybulkapqu
