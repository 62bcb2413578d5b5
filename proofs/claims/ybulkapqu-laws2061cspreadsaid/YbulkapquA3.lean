import Derived.Test.YbulkapquA2
import Derived.Below
import Derived.Deep.LoopGhost
import Derived.Deep.Draws
namespace Go.Proofs.Ybulkapqu
open Go.RowKit Go.Sort

/-- The second world is the first one after some draws, with some blocks laid behind it. -/
def Gr (w w' : World) : Prop := ∃ q os, w' = grow (w.drewN q) os

theorem drewN_zero (w : World) : w.drewN 0 = w := rfl
theorem Gr.refl (w : World) : Gr w w := ⟨0, #[], by rw [grow_empty]; rfl⟩
theorem Gr.trans {a b c : World} (h : Gr a b) (h' : Gr b c) : Gr a c := by
  obtain ⟨q, os, rfl⟩ := h
  obtain ⟨q', os', rfl⟩ := h'
  exact ⟨q + q', os ++ os', by show grow (grow ((a.drewN q).drewN q') os) os' = _; rw [grow_grow, World.drewN_drewN]⟩
theorem Gr.grown {a b : World} (h : Gr a b) (n : Nat) (os : Array Obj) : Gr a (grow (b.drewN n) os) := h.trans ⟨n, os, rfl⟩
theorem Gr.alloc {a b : World} (h : Gr a b) (o : Obj) : Gr a (b.alloc o) := h.trans ⟨0, #[o], alloc_eq_grow _ _⟩
theorem Gr.drew {a b : World} (h : Gr a b) : Gr a b.drew := h.trans ⟨1, #[], by rw [grow_empty]; rfl⟩
theorem Gr.drewN {a b : World} (h : Gr a b) (q : Nat) : Gr a (b.drewN q) := h.trans ⟨q, #[], by rw [grow_empty]⟩
theorem Gr.heap {a b : World} (h : Gr a b) {k : Nat} (hk : k < a.heap.size) : b.heap[k]? = a.heap[k]? := by
  obtain ⟨q, os, rfl⟩ := h
  exact heap_grow_old _ _ hk
theorem Gr.size {a b : World} (h : Gr a b) : a.heap.size ≤ b.heap.size := by
  obtain ⟨q, os, rfl⟩ := h
  rw [size_grow]
  exact Nat.le_add_right _ _
theorem Gr.cell {a b : World} (h : Gr a b) {x : Addr} {v : Value} (hk : x.block < a.heap.size) (hv : a.cell? x = some v) : b.cell? x = some v := by
  obtain ⟨q, os, rfl⟩ := h
  exact cell_grown hk hv _ _
theorem Gr.frozen {a b : World} (h : Gr a b) {x : Addr} (hk : x.block < a.heap.size) : b.frozen? x = a.frozen? x := by
  obtain ⟨q, os, rfl⟩ := h
  rw [frozen?_grow _ _ _ (by exact hk)]
  rfl
theorem Gr.rangeAt {a b : World} (h : Gr a b) {B o : Nat} {l : List Value} (hk : B < a.heap.size) (hv : a.rangeAt B o l) : b.rangeAt B o l := fun j v hj => h.cell hk (hv j v hj)
theorem Gr.cells {a b : World} (h : Gr a b) {x : Addr} {v : Value} (hk : x.block < a.heap.size) (hv : a.cell? x = some v) (n : Nat) (os : Array Obj) : (grow (b.drewN n) os).cell? x = some v := (h.grown n os).cell hk hv
theorem _root_.Go.Calls.grown_of' {P : Program} {f : FuncId} {args : Array Value} {w : World} {n : Nat} {os : Array Obj} {v : Value}
    (h : Calls P f args (grow (w.drewN n) os) fun e w' => e = .returned v ∧ Gr (grow (w.drewN n) os) w') : Calls P f args (grow (w.drewN n) os) fun e w'' => e = .returned v ∧ ∃ p : GrownBy, w'' = grow (w.drewN p.n) p.os :=
  Calls.grown_of h

set_option maxHeartbeats 4000000 in
set_option maxRecDepth 1000000 in
/-- slices.BinarySearchFunc at a target of twenty cells. -/
theorem bsf_calls (w : World) (R off m cap : Nat) (xs : List Nat) (hm : xs.length = m) (hbig : m < 4611686018427387904) (hR : R < w.heap.size)
    (hrow : ∀ (j x : Nat), xs[j]? = some x → w.cell? ⟨R, off + j, none⟩ = some (.int .i64 (x : Int))) (lb : List UInt8) (hlb : lb.length = 20) (K : Nat) (f : Nat → Int)
    (hc : ∀ wr, Gr w wr → ∀ (j x : Nat), xs[j]? = some x → Calls Yba.prog 48 #[.int .i64 (x : Int), .agg (idV lb).toArray, .pointer (some ⟨K, 0, none⟩)] wr fun e w' => e = .returned (.int .i64 (f j)) ∧ Gr wr w')
    (p : Nat) (hp : p ≤ m) (hlt : ∀ j, j < p → f j < 0) (hge : ∀ j, p ≤ j → j < m → 0 ≤ f j) :
    Calls Yba.prog 47 #[.slice (some ⟨R, off, none⟩) m cap, .agg (idV lb).toArray, .func (.func 48) #[] #[.pointer (some ⟨K, 0, none⟩)]] w fun e w' =>
      e = .returned (.tuple #[.int .i64 (p : Int), .bool (decide (p < m ∧ f p = 0))]) ∧ Gr w w' := by
  have mixed : Yba.prog.follows .mixedOrders = true := by kernel_rfl
  have A : Aside (∀ j, j < p → f j < 0) := hlt
  have A2 : Aside (∀ j, p ≤ j → j < m → 0 ≤ f j) := hge
  have HC : Aside _ := hc
  have HR : Aside _ := hrow
  obtain ⟨w1, hw1⟩ : ∃ w1, w1 = w.alloc (.cells (idV lb).toArray 37) := ⟨_, rfl⟩
  have G1 : Gr w w1 := hw1 ▸ (Gr.refl w).alloc _
  have L1 : Aside (∀ wr, Gr w1 wr → (loadVar 37 ⟨w.heap.size, 0, none⟩).run Yba.prog wr = .ok (.agg (idV lb).toArray) wr) := fun wr hwr =>
    idload (hwr.rangeAt (by rw [hw1, World.size_alloc]; exact Nat.lt_succ_self _) (hw1 ▸ rangeAt_new w (idV lb) 37)) hlb
  clear hlt hge hc hrow
  go_enter Yba.func47, Yba.ntmps47
  go_wp2
  rw [← hw1]
  generalize hB : w.heap.size = BX at *
  go_loopg [9, 10] m (fun g s9 s10 wr => ∃ lo hi : Nat, s9 = .int .i64 lo ∧ s10 = .int .i64 hi ∧ lo ≤ p ∧ p ≤ hi ∧ hi ≤ m ∧ hi - lo ≤ g ∧ Gr w1 wr)
  case atStart => exact ⟨0, m, rfl, rfl, Nat.zero_le _, hp, Nat.le_refl _, by omega, Gr.refl _⟩
  case round =>
    obtain ⟨lo, hi, rfl, rfl, hlp, hph, hhm, hg, GW⟩ := hrel
    by_cases hlh : lo < hi
    · obtain ⟨md, hmd⟩ : ∃ md, md = (lo + hi) / 2 := ⟨_, rfl⟩
      obtain ⟨x, hx⟩ : ∃ x, xs[md]? = some x := ⟨_, List.getElem?_eq_getElem (by omega)⟩
      have cm := fun n os => GW.cells (x := ⟨R, off + (lo + hi) / 2, none⟩) (Nat.lt_of_lt_of_le (hB ▸ hR) (hB ▸ G1.size)) (G1.cell (hB ▸ hR) (hmd ▸ HR.out md x hx)) n os
      have hcall := fun n os => HC.out (grow (wr.drewN n) os) ((G1.trans GW).grown n os) md x hx
      have HCall := hide hcall
      clear hcall hx
      have hmz : (0:Int) ≤ ((lo:Int) + (hi:Int)) / 2 := by omega
      have hmn : ((lo:Int) + (hi:Int)) / 2 < (m:Int) := by omega
      have hmt : (((lo:Int) + (hi:Int)) / 2).toNat = (lo + hi) / 2 := by omega
      have hlz : (lo:Int) < (hi:Int) := by omega
      by_cases hmp : md < p
      · have hy : f md < 0 := A.out _ hmp
        generalize f md = y at HCall hy
        have hyd : decide (y < 0) = true := decide_eq_true hy
        have HM := hide hmd
        have HMP := hide hmp
        clear hmd hmp
        go_wp2_with fail
        refine wp_region_quiet_grown (by assumption) (by kernel_rfl) ?_
        repeat (first
          | refine wpQuiet_load_mid rfl 37 _ rfl _ _ rfl _ (fun w' hw' => by obtain ⟨p, rfl⟩ := hw'; exact L1.out _ (GW.grown _ _)) ?_
          | quiet_step (first | (go_at_call 48; refine Calls.grown_of' (HCall.out _ _))))
        refine wpQuiet_nil ?_
        intro _ hw'
        obtain ⟨⟨nq, osq⟩, hw''⟩ := hw'
        subst hw''
        have GW2 := GW.grown nq osq
        go_wp2
        go_roundg (hi - (md + 1))
        case measure => have := HM.out; have := HMP.out; omega
        case rel =>
          have e1 := HM.out
          have e2 := HMP.out
          exact ⟨md + 1, hi, by rw [show ((lo : Int) + (hi : Int)) / 2 + 1 = ((md + 1 : Nat) : Int) by omega], rfl, by omega, hph, hhm, Nat.le_refl _, GW2⟩
      · have hy : ¬ f md < 0 := by have := A2.out md (by omega) (by omega); omega
        generalize f md = y at HCall hy
        have hyd : decide (y < 0) = false := decide_eq_false hy
        have HM := hide hmd
        have HMP := hide hmp
        clear hmd hmp
        go_wp2_with fail
        refine wp_region_quiet_grown (by assumption) (by kernel_rfl) ?_
        repeat (first
          | refine wpQuiet_load_mid rfl 37 _ rfl _ _ rfl _ (fun w' hw' => by obtain ⟨p, rfl⟩ := hw'; exact L1.out _ (GW.grown _ _)) ?_
          | quiet_step (first | (go_at_call 48; refine Calls.grown_of' (HCall.out _ _))))
        refine wpQuiet_nil ?_
        intro _ hw'
        obtain ⟨⟨nq, osq⟩, hw''⟩ := hw'
        subst hw''
        have GW2 := GW.grown nq osq
        go_wp2
        go_roundg (md - lo)
        case measure => have := HM.out; have := HMP.out; omega
        case rel =>
          have e1 := HM.out
          have e2 := HMP.out
          exact ⟨lo, md, rfl, by rw [show ((lo : Int) + (hi : Int)) / 2 = ((md : Nat) : Int) by omega], hlp, by omega, by omega, Nat.le_refl _, GW2⟩
    · obtain rfl : lo = hi := by omega
      obtain rfl : lo = p := by omega
      clear hlp hph A A2
      by_cases hlm : lo < m
      · obtain ⟨x, hx⟩ : ∃ x, xs[lo]? = some x := ⟨_, List.getElem?_eq_getElem (by omega)⟩
        have cm := fun n os => GW.cells (x := ⟨R, off + lo, none⟩) (Nat.lt_of_lt_of_le (hB ▸ hR) (hB ▸ G1.size)) (G1.cell (hB ▸ hR) (HR.out lo x hx)) n os
        have hcall := fun n os => HC.out (grow (wr.drewN n) os) ((G1.trans GW).grown n os) lo x hx
        have HCall := hide hcall
        clear hcall hx
        have hlz : (lo:Int) < (m:Int) := by omega
        have hld : decide ((lo:Int) < (m:Int)) = true := decide_eq_true hlz
        obtain ⟨y, hfy⟩ : ∃ y, f lo = y := ⟨_, rfl⟩
        rw [hfy] at HCall
        have HFY := hide hfy
        clear hfy
        by_cases hy : y = 0
        · have hyd : (y == 0) = true := by simp [hy]
          have HE : Hid (decide (lo < m ∧ f lo = 0) = true) := decide_eq_true ⟨hlm, HFY.out.trans hy⟩
          have Hy := hide hy
          clear hy
          go_wp2_with fail
          refine wp_region_quiet_grown (by assumption) (by kernel_rfl) ?_
          repeat (first
            | refine wpQuiet_load_mid rfl 37 _ rfl _ _ rfl _ (fun w' hw' => by obtain ⟨p, rfl⟩ := hw'; exact L1.out _ (GW.grown _ _)) ?_
            | quiet_step (first | (go_at_call 48; refine Calls.grown_of' (HCall.out _ _))))
          refine wpQuiet_nil ?_
          intro _ hw'
          obtain ⟨⟨nq, osq⟩, hw''⟩ := hw'
          subst hw''
          have GW2 := GW.grown nq osq
          go_wp2
          go_ret2
          exact ⟨by rw [HE.out]; rfl, G1.trans GW2⟩
        · have hyd : (y == 0) = false := by simp [hy]
          have HE : Hid (decide (lo < m ∧ f lo = 0) = false) := decide_eq_false (fun h => hy (HFY.out.symm.trans h.2))
          have Hy := hide hy
          clear hy
          go_wp2_with fail
          refine wp_region_quiet_grown (by assumption) (by kernel_rfl) ?_
          repeat (first
            | refine wpQuiet_load_mid rfl 37 _ rfl _ _ rfl _ (fun w' hw' => by obtain ⟨p, rfl⟩ := hw'; exact L1.out _ (GW.grown _ _)) ?_
            | quiet_step (first | (go_at_call 48; refine Calls.grown_of' (HCall.out _ _))))
          refine wpQuiet_nil ?_
          intro _ hw'
          obtain ⟨⟨nq, osq⟩, hw''⟩ := hw'
          subst hw''
          have GW2 := GW.grown nq osq
          go_wp2
          go_ret2
          exact ⟨by rw [HE.out]; rfl, G1.trans GW2⟩
      · have hlz : ¬ (lo:Int) < (m:Int) := by omega
        have hld : decide ((lo:Int) < (m:Int)) = false := decide_eq_false hlz
        have HE : Hid (decide (lo < m ∧ f lo = 0) = false) := decide_eq_false (fun h => hlm h.1)
        go_wp2_with fail
        refine wp_region_quiet_grown (by assumption) (by kernel_rfl) ?_
        iterate 5 (quiet_step (fail))
        iterate 8 go_big_quiet_skip
        repeat (quiet_step (fail))
        refine wpQuiet_nil ?_
        intro _ hw'
        obtain ⟨⟨nq, osq⟩, hw''⟩ := hw'
        subst hw''
        have GW2 := GW.grown nq osq
        go_wp2
        go_ret2
        exact ⟨by rw [HE.out]; rfl, G1.trans GW2⟩
end Go.Proofs.Ybulkapqu
