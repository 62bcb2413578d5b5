import Derived.Test.YbulkapquC1
namespace Go.Proofs.Ybulkapqu
open Go.RowKit Go.Sort

/-! ### cmp.Compare at bytes -/
def cmpI (a b : Int) : Int := if a < b then -1 else if b < a then 1 else 0
set_option maxHeartbeats 4000000 in
set_option maxRecDepth 1000000 in
theorem isnan_calls (w : World) (a : Int) : Calls Yba.prog 112 #[.int .u8 a] w fun e w' => e = .returned (.bool false) ∧ w' = w := by
  go_enter Yba.func112, Yba.ntmps112
  go_wp2
  go_ret
  exact ⟨by simp, rfl⟩
set_option maxHeartbeats 4000000 in
set_option maxRecDepth 1000000 in
theorem cmpb_calls (w : World) (a b : Int) : Calls Yba.prog 110 #[.int .u8 a, .int .u8 b] w fun e w' => e = .returned (.int .i64 (cmpI a b)) ∧ w' = w := by
  have ha := hide (isnan_calls w a)
  have hb := hide (isnan_calls w b)
  have body : ∀ y, cmpI a b = y → Calls Yba.prog 110 #[.int .u8 a, .int .u8 b] w fun e w' => e = .returned (.int .i64 y) ∧ w' = w := fun y hy => by
    by_cases h1 : a < b
    · obtain rfl : y = -1 := by rw [← hy, cmpI, if_pos h1]
      clear hy
      go_enter Yba.func110, Yba.ntmps110
      go_wp2_with fail
      refine ha.out.mono ?_
      rintro e w' ⟨rfl, rfl⟩
      go_wp2_with fail
      refine hb.out.mono ?_
      rintro e w' ⟨rfl, rfl⟩
      go_wp2
      go_ret
      exact ⟨rfl, rfl⟩
    · by_cases h2 : b < a
      · obtain rfl : y = 1 := by rw [← hy, cmpI, if_neg h1, if_pos h2]
        clear hy
        go_enter Yba.func110, Yba.ntmps110
        go_wp2_with fail
        refine ha.out.mono ?_
        rintro e w' ⟨rfl, rfl⟩
        go_wp2_with fail
        refine hb.out.mono ?_
        rintro e w' ⟨rfl, rfl⟩
        go_wp2
        go_ret
        exact ⟨rfl, rfl⟩
      · obtain rfl : y = 0 := by rw [← hy, cmpI, if_neg h1, if_neg h2]
        clear hy
        go_enter Yba.func110, Yba.ntmps110
        go_wp2_with fail
        refine ha.out.mono ?_
        rintro e w' ⟨rfl, rfl⟩
        go_wp2_with fail
        refine hb.out.mono ?_
        rintro e w' ⟨rfl, rfl⟩
        go_wp2
        go_ret
        exact ⟨rfl, rfl⟩
  exact body _ rfl

/-! ### comparePrefix: an answer that hangs on the arguments alone -/
structure PSt (w : World) (la lb : List UInt8) (W : World) : Prop where
  gr : Gr w W
  hA : At W w.heap.size (idV la).toArray 37
  hB : At W (w.heap.size + 1) (idV lb).toArray 37
theorem PSt.step {w : World} {la lb : List UInt8} {W W' : World} (h : PSt w la lb W) (g : Gr W W') : PSt w la lb W' := ⟨h.gr.trans g, h.hA.gr g, h.hB.gr g⟩
theorem pSt_start (w : World) (la lb : List UInt8) : PSt w la lb ((w.alloc (.cells (idV la).toArray 37)).alloc (.cells (idV lb).toArray 37)) := by
  refine ⟨((Gr.refl w).alloc _).alloc _, (At.new w _ _).alloc _, ?_⟩
  have := At.new (w.alloc (.cells (idV la).toArray 37)) (idV lb).toArray 37
  rwa [World.size_alloc] at this
theorem PSt.comp {w : World} {la lb : List UInt8} {W : World} (h : PSt w la lb W) (hla : la.length = 20) (hlb : lb.length = 20) (q : Nat) (hq : q ≤ 20) (c d : Nat) :
    Calls Yba.prog 34 #[.slice (some ⟨w.heap.size, 0, none⟩) q c, .slice (some ⟨w.heap.size + 1, 0, none⟩) q d] W fun e w' => e = .returned (.int .i64 (Lib.compareBytes (la.take q) (lb.take q))) ∧ Gr W w' := by
  have key : ∀ (l : List UInt8) (b : Nat), At W b (idV l).toArray 37 → ∀ j x, (l.take q)[j]? = some x → W.cell? ((⟨b, 0, none⟩ : Addr).add j) = some (.int .u8 x.toNat) := fun l b hb j x hx => by
    have hj : j < q := by have := (List.getElem?_eq_some_iff.1 hx).1; simp at this; omega
    rw [List.getElem?_take_of_lt hj] at hx
    rw [Addr.add_mid, Nat.zero_add, hb.cell]
    simpa using idV_get l j x hx
  refine (compare_calls W ⟨w.heap.size, 0, none⟩ ⟨w.heap.size + 1, 0, none⟩ q q c d (la.take q) (lb.take q) (by simp; omega) (by simp; omega) (key la _ h.hA) (key lb _ h.hB)).mono ?_
  rintro e w' ⟨rfl, rfl⟩
  exact ⟨rfl, Gr.refl _⟩

def maskY (n : Nat) : Int := 255 * 2 ^ (8 - n % 8) % 256
def prefY (la lb : List UInt8) (n : Nat) : Int :=
  if Lib.compareBytes (la.take (n / 8)) (lb.take (n / 8)) = 0 then (if n % 8 = 0 then 0 else cmpI (bits BinOp.and IntKind.u8 ((la.getD (n / 8) 0).toNat : Int) (maskY n)) (bits BinOp.and IntKind.u8 ((lb.getD (n / 8) 0).toNat : Int) (maskY n)))
  else Lib.compareBytes (la.take (n / 8)) (lb.take (n / 8))
theorem byte_cell {W : World} {b : Nat} {l : List UInt8} (h : At W b (idV l).toArray 37) (q : Nat) (hq : q < l.length) : W.cell? ⟨b, q, none⟩ = some (.int .u8 ((l.getD q 0).toNat : Int)) := by
  rw [h.cell]
  have : l[q]? = some (l.getD q 0) := by rw [List.getD_eq_getElem?_getD, List.getElem?_eq_getElem hq]; rfl
  simpa using idV_get l q _ this

set_option maxHeartbeats 4000000 in
set_option maxRecDepth 1000000 in
theorem prefix_calls (w : World) (la lb : List UInt8) (hla : la.length = 20) (hlb : lb.length = 20) (n : Nat) (hn : n ≤ 160) :
    Calls Yba.prog 98 #[.agg (idV la).toArray, .agg (idV lb).toArray, .int .i64 (n : Int)] w fun e w' => e = .returned (.int .i64 (prefY la lb n)) ∧ Gr w w' := by
  have mixed : Yba.prog.follows .mixedOrders = true := by kernel_rfl
  obtain ⟨S, hS⟩ : ∃ S, S = w.heap.size := ⟨_, rfl⟩
  obtain ⟨w1, hw1⟩ : ∃ w1, w1 = (w.alloc (.cells (idV la).toArray 37)).alloc (.cells (idV lb).toArray 37) := ⟨_, rfl⟩
  have P1 : PSt w la lb w1 := hw1 ▸ pSt_start w la lb
  obtain ⟨y, hy⟩ : ∃ y, prefY la lb n = y := ⟨_, rfl⟩
  rw [hy]
  unfold prefY at hy
  obtain ⟨q, hq⟩ : ∃ q, q = n / 8 := ⟨_, rfl⟩
  rw [← hq] at hy
  have hq20 : q ≤ 20 := by omega
  have HQN : Hid ((n : Int) / 8 = (q : Int)) := by show _ = _; rw [hq]; omega
  have hcm := fun k os => (P1.step ((Gr.refl w1).grown k os)).comp hla hlb q hq20 20 20
  rw [← hS] at hcm
  obtain ⟨c, hc⟩ : ∃ c, Lib.compareBytes (la.take q) (lb.take q) = c := ⟨_, rfl⟩
  rw [hc] at hcm hy
  have HY := hide hy
  have HC := hide hcm
  have HW := hide hw1
  have HS := hide hS
  have HP := hide P1
  have HQ := hide hq
  have hqz : (0:Int) ≤ (q : Int) := by omega
  have hqz2 : (q : Int) ≤ 20 := by omega
  clear hcm hw1 hS P1 hq hc hy
  go_enter Yba.func98, Yba.ntmps98
  go_upto_region 1 with fail
  rw [← HW.out, ← HS.out]
  go_upto_region 2 with fail
  rw [HQN.out]
  refine wp_region_quiet_grown (by assumption) (by kernel_rfl) ?_
  iterate 4 quiet_step (fail)
  quiet_step ((go_at_call 34; refine Calls.grown_of' (HC.out _ _)))
  quiet_step (fail)
  refine wpQuiet_nil ?_
  intro _ hw'
  obtain ⟨⟨nq, osq⟩, hw''⟩ := hw'
  subst hw''
  have HP2 := hide (HP.out.step ((Gr.refl w1).grown nq osq))
  clear HC HP HW
  generalize grow (w1.drewN nq) osq = w2 at *
  by_cases hc0 : c = 0
  · by_cases hr : n % 8 = 0
    · obtain rfl : y = 0 := by have := HY.out; rw [if_pos hc0, if_pos hr] at this; exact this.symm
      have hr' : (n : Int) % 8 = 0 := by omega
      subst hc0
      clear HY
      go_wp2
      go_ret
      exact ⟨rfl, HP2.out.gr⟩
    · have hy := HY.out
      rw [if_pos hc0, if_neg hr] at hy
      have hr' : ¬ ((n : Int) % 8 = 0) := by omega
      have hr2 : ((n : Int) % 8 == 0) = false := by simpa using hr'
      have hq19 : q < 20 := by have := HQ.out; omega
      have hqz3 : (q : Int) < 20 := by omega
      subst hc0
      obtain ⟨ba, hba⟩ : ∃ b, ((la.getD q 0).toNat : Int) = b := ⟨_, rfl⟩
      obtain ⟨bb, hbb⟩ : ∃ b, ((lb.getD q 0).toNat : Int) = b := ⟨_, rfl⟩
      rw [hba, hbb] at hy
      have ca := fun k os => byte_cell ((HP2.out.step ((Gr.refl w2).grown k os)).hA) q (by omega)
      have cb := fun k os => byte_cell ((HP2.out.step ((Gr.refl w2).grown k os)).hB) q (by omega)
      rw [hba, ← HS.out] at ca
      rw [hbb, ← HS.out] at cb
      obtain ⟨mk, hmk⟩ : ∃ m, maskY n = m := ⟨_, rfl⟩
      rw [hmk] at hy
      have HM : Hid ((255 : Int) * 2 ^ (8 - n % 8) % 256 = mk) := hmk
      obtain ⟨va, hva⟩ : ∃ v, bits BinOp.and IntKind.u8 ba mk = v := ⟨_, rfl⟩
      obtain ⟨vb, hvb⟩ : ∃ v, bits BinOp.and IntKind.u8 bb mk = v := ⟨_, rfl⟩
      rw [hva, hvb] at hy
      have hcc : ∀ k os, Calls Yba.prog 110 #[.int .u8 va, .int .u8 vb] (grow (w2.drewN k) os) fun e w' => e = .returned (.int .i64 y) ∧ Gr (grow (w2.drewN k) os) w' := fun k os => by
        rw [← hy]
        exact (cmpb_calls _ va vb).mono fun e w' ⟨h1, h2⟩ => ⟨h1, by rw [h2]; exact Gr.refl _⟩
      have HCC := hide hcc
      clear hy HY hba hbb hmk hcc
      go_upto_region 6 with fail
      rw [HM.out]
      refine wp_region_quiet_grown (by assumption) (by kernel_rfl) ?_
      iterate 10 quiet_step (fail)
      quiet_step ((go_at_call 110; refine Calls.grown_of' (HCC.out _ _)))
      quiet_step (fail)
      refine wpQuiet_nil ?_
      intro _ hw'
      obtain ⟨⟨nq2, osq2⟩, hw''⟩ := hw'
      subst hw''
      have HG := hide (HP2.out.gr.grown nq2 osq2)
      clear ca cb HCC HP2
      go_wp2
      go_ret
      exact ⟨rfl, HG.out⟩
  · obtain rfl : y = c := by have := HY.out; rw [if_neg hc0] at this; exact this.symm
    have hc1 : (y != 0) = true := by simpa using hc0
    clear HY
    go_wp2
    go_ret
    exact ⟨rfl, HP2.out.gr⟩
end Go.Proofs.Ybulkapqu
