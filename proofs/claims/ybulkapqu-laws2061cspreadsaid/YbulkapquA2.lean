import Derived.Test.YbulkapquA1
import Derived.Shelf.SlSortCmp.QuietGrown
namespace Go.Proofs.Ybulkapqu
open Go.RowKit Go.Sort

theorem cmp_grown (w : World) (la lb : List UInt8) (hla : la.length = 20) (hlb : lb.length = 20) :
    Calls Yba.prog 17 #[.agg (idV la).toArray, .agg (idV lb).toArray] w fun e w' => e = .returned (.int .i64 (Lib.compareBytes la lb)) ∧ ∃ q os', w' = grow (w.drewN q) os' :=
  (cmp_calls w la lb hla hlb).mono fun e w' ⟨he, q, hq⟩ => ⟨he, q, #[.cells (idV la).toArray 37] ++ #[.cells (idV lb).toArray 37], by
    rw [hq, alloc_eq_grow, alloc_eq_grow, grow_grow]; rfl⟩

theorem rangeAt_grown {w : World} {B o : Nat} {l : List Value} (hB : B < w.heap.size) (h : w.rangeAt B o l) (n : Nat) (os : Array Obj) : (grow (w.drewN n) os).rangeAt B o l := fun j v hv =>
  cell_grown hB (h j v hv) n os

theorem idload {w : World} {B o : Nat} {l : List UInt8} (h : w.rangeAt B o (idV l)) (hl : l.length = 20) : (loadVar 37 ⟨B, o, none⟩).run Yba.prog w = .ok (.agg (idV l).toArray) w :=
  run_loadVar_mid _ B o 37 (idV l) (.array 20 5) h (by kernel_rfl) rfl (by rw [length_idV, hl]; kernel_rfl)

theorem rangeAt_new (w : World) (l : List Value) (t : TypeId) : (w.alloc (.cells l.toArray t)).rangeAt w.heap.size 0 l := fun j v hv => by
  rw [cell_of_row _ _ _ _ _ _ (heap_alloc_new w _)]
  simpa using hv

theorem wpQuiet_load_mid {P : Program} {ops : Array Oper} {C : World → Prop} {Q : Act → Prop} {o : Oper} {rest : List Oper} {a : Act} (hw : Region.wanted o (yielded ops a.tmps) = true) (ty : TypeId) (x : Operand) (ho : o.op = .load ty x)
    (b off : Nat) (hx : a.eval x = .pointer (some ⟨b, off, none⟩)) (v : Value) (hr : ∀ w', C w' → (loadVar ty ⟨b, off, none⟩).run P w' = .ok v w') (h : wpQuiet P ops C Q rest (a.put o.dst v)) : wpQuiet P ops C Q (o :: rest) a :=
  BigFrame.wpQuiet_want hw fun K hK => ⟨v, fun w' hw' => by
    unfold Oper.quietAt execOp
    simp only [ho, hx, Instr.loadAt, Instr.sureAddr, Sem.run_bind, Sem.run_pure, Result.andThen_ok, hr w' hw']
    exact ⟨rfl, rfl⟩, hK _ h⟩

set_option maxHeartbeats 1000000 in
set_option maxRecDepth 100000 in
/-- newRingOrder's closure. -/
theorem clo_calls (w : World) (O B n c : Nat) (ids : List (List UInt8)) (hlen : ids.length = n) (hl : ∀ l ∈ ids, l.length = 20)
    (hO : O < w.heap.size) (hB : B < w.heap.size) (h0 : w.cell? ⟨O, 0, none⟩ = some (.slice (some ⟨B, 0, none⟩) n c))
    (hid : ∀ (i : Nat) (l : List UInt8), ids[i]? = some l → w.rangeAt B (i * 20) (idV l)) (x y : Nat) (la lb : List UInt8) (hx : ids[x]? = some la) (hy : ids[y]? = some lb) :
    Calls Yba.prog 29 #[.int .i64 (x : Int), .int .i64 (y : Int), .pointer (some ⟨O, 0, none⟩)] w fun e w' => e = .returned (.int .i64 (Lib.compareBytes la lb)) ∧ ∃ q os', w' = grow (w.drewN q) os' := by
  have mixed : Yba.prog.follows .mixedOrders = true := by kernel_rfl
  have hlx : x < n := by obtain ⟨h, _⟩ := List.getElem?_eq_some_iff.1 hx; omega
  have hly : y < n := by obtain ⟨h, _⟩ := List.getElem?_eq_some_iff.1 hy; omega
  have c0 := cell_grown hO h0
  have hc := fun k os => cmp_grown (grow (w.drewN k) os) la lb (hl _ (List.mem_of_getElem? hx)) (hl _ (List.mem_of_getElem? hy))
  have Hc := hide hc
  have lx := fun k os => idload (rangeAt_grown hB (hid x la hx) k os) (hl _ (List.mem_of_getElem? hx))
  have ly := fun k os => idload (rangeAt_grown hB (hid y lb hy) k os) (hl _ (List.mem_of_getElem? hy))
  have hxz : (0:Int) ≤ (x : Int) := by omega
  have hyz : (0:Int) ≤ (y : Int) := by omega
  have hxn : (x : Int) < (n : Int) := by omega
  have hyn : (y : Int) < (n : Int) := by omega
  clear hc hO h0 hB hid hx hy hl hlen hlx hly
  go_enter Yba.func29, Yba.ntmps29
  go_wp2_with fail
  refine wp_region_quiet_grown (by assumption) (by kernel_rfl) ?_
  repeat (first
    | refine wpQuiet_load_mid rfl 37 _ rfl _ _ rfl _ (fun w' hw' => by obtain ⟨p, rfl⟩ := hw'; exact lx _ _) ?_
    | refine wpQuiet_load_mid rfl 37 _ rfl _ _ rfl _ (fun w' hw' => by obtain ⟨p, rfl⟩ := hw'; exact ly _ _) ?_
    | quiet_step (first | (go_at_call 17; refine Calls.grown_of (Hc.out _ _))))
  refine wpQuiet_nil ?_
  intro _ hw'
  obtain ⟨⟨nq, osq⟩, hw''⟩ := hw'
  subst hw''
  go_wp2
  go_ret
  exact ⟨rfl, _, _, rfl⟩

set_option maxHeartbeats 1000000 in
set_option maxRecDepth 100000 in
/-- find's closure. -/
theorem fclo_calls (w : World) (K O B n c : Nat) (ids : List (List UInt8)) (hlen : ids.length = n) (hl : ∀ l ∈ ids, l.length = 20)
    (hK : K < w.heap.size) (hO : O < w.heap.size) (hB : B < w.heap.size) (hk : w.cell? ⟨K, 0, none⟩ = some (.pointer (some ⟨O, 0, none⟩))) (h0 : w.cell? ⟨O, 0, none⟩ = some (.slice (some ⟨B, 0, none⟩) n c))
    (hid : ∀ (i : Nat) (l : List UInt8), ids[i]? = some l → w.rangeAt B (i * 20) (idV l)) (x : Nat) (la lb : List UInt8) (hx : ids[x]? = some la) (hlb : lb.length = 20) :
    Calls Yba.prog 48 #[.int .i64 (x : Int), .agg (idV lb).toArray, .pointer (some ⟨K, 0, none⟩)] w fun e w' => e = .returned (.int .i64 (Lib.compareBytes la lb)) ∧ ∃ q os', w' = grow (w.drewN q) os' := by
  have mixed : Yba.prog.follows .mixedOrders = true := by kernel_rfl
  have hlx : x < n := by obtain ⟨h, _⟩ := List.getElem?_eq_some_iff.1 hx; omega
  have hc := fun k os => cmp_grown (grow ((w.alloc (.cells (idV lb).toArray 37)).drewN k) os) la lb (hl _ (List.mem_of_getElem? hx)) hlb
  have Hc := hide hc
  have hsz : (w.alloc (.cells (idV lb).toArray 37)).heap.size = w.heap.size + 1 := World.size_alloc _ _
  have ck := cell_grown (w := w.alloc (.cells (idV lb).toArray 37)) (a := ⟨K, 0, none⟩) (by rw [hsz]; exact Nat.lt_succ_of_lt hK) ((World.cell?_alloc_lt _ _ _ hK).trans hk)
  have c0 := cell_grown (w := w.alloc (.cells (idV lb).toArray 37)) (a := ⟨O, 0, none⟩) (by rw [hsz]; exact Nat.lt_succ_of_lt hO) ((World.cell?_alloc_lt _ _ _ hO).trans h0)
  have lx := fun k os => idload (rangeAt_grown (w := w.alloc (.cells (idV lb).toArray 37)) (B := B) (by rw [hsz]; exact Nat.lt_succ_of_lt hB) (World.rangeAt_alloc (hid x la hx) _) k os) (hl _ (List.mem_of_getElem? hx))
  have ly := fun k os => idload (rangeAt_grown (w := w.alloc (.cells (idV lb).toArray 37)) (B := w.heap.size) (by rw [hsz]; exact Nat.lt_succ_self _) (rangeAt_new w (idV lb) 37) k os) hlb
  have hxz : (0:Int) ≤ (x : Int) := by omega
  have hxn : (x : Int) < (n : Int) := by omega
  clear hc hO h0 hB hid hx hl hlen hlx hlb hk hsz
  go_enter Yba.func48, Yba.ntmps48
  go_wp2_with fail
  refine wp_region_quiet_grown (by assumption) (by kernel_rfl) ?_
  repeat (first
    | refine wpQuiet_load_mid rfl 37 _ rfl _ _ rfl _ (fun w' hw' => by obtain ⟨p, rfl⟩ := hw'; exact lx _ _) ?_
    | refine wpQuiet_load_mid rfl 37 _ rfl _ _ rfl _ (fun w' hw' => by obtain ⟨p, rfl⟩ := hw'; exact ly _ _) ?_
    | quiet_step (first | (go_at_call 17; refine Calls.grown_of (Hc.out _ _))))
  refine wpQuiet_nil ?_
  intro _ hw'
  obtain ⟨⟨nq, osq⟩, hw''⟩ := hw'
  subst hw''
  go_wp2
  go_ret
  exact ⟨rfl, nq, #[.cells (idV lb).toArray 37] ++ osq, by rw [alloc_eq_grow, ← grow_grow]; rfl⟩
end Go.Proofs.Ybulkapqu
