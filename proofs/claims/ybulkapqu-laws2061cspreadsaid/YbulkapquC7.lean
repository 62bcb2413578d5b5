import Derived.Test.YbulkapquC6
import Derived.Test.YbulkapquB7
namespace Go.Proofs.Ybulkapqu
open Go.RowKit Go.Sort

/-! ### What the decisions read of a membership -/
def peerV (l : List UInt8) : List Value := idV l ++ [.int .u64 0, .int .u64 0, .pointer none, .int .u16 0]
theorem length_peerV (l : List UInt8) (hl : l.length = 20) : (peerV l).length = 24 := by simp [peerV, length_idV, hl]
/-- A slice of peers: the identifiers. -/
structure PeersAt (w : World) (v : Value) (ids : List (List UInt8)) (b o cap : Nat) : Prop where
  val : v = .slice (some ⟨b, o, none⟩) ids.length cap ∨ (v = .slice none 0 0 ∧ ids = [])
  len : ∀ l ∈ ids, l.length = 20
  row : ∀ (i : Nat) (l : List UInt8), ids[i]? = some l → w.rangeAt b (o + i * 24) (peerV l)
structure Cfg where
  MB : Nat
  RB : Nat
  LB : Nat
  SU : Nat
  WA : Nat
  nr : Nat
  x : Nat
  f : Nat
  t : Nat
  self : List UInt8
  sus : List (List UInt8 × Value)
  cw : Nat → List (List UInt8)
structure Mem (c : Cfg) (w : World) : Prop where
  rings : w.cell? ⟨c.MB, 21, none⟩ = some (.slice (some ⟨c.RB, 0, none⟩) c.nr c.nr)
  susp : w.cell? ⟨c.MB, 29, none⟩ = some (.map (some c.SU))
  watch : w.cell? ⟨c.MB, 30, none⟩ = some (.map (some c.WA))
  lay : w.cell? ⟨c.RB, 44, none⟩ = some (.pointer (some ⟨c.LB, 0, none⟩))
  layout : At w c.LB (layV c.x c.f c.t) 51
  leaf : ∀ r, r < c.nr → w.rangeAt c.RB (r * 47) (idV (viewL c.f r c.self))
  cwAt : ∀ r, r < c.nr → ∃ v b o cap, w.cell? ⟨c.RB, r * 47 + 21, none⟩ = some v ∧ PeersAt w v (c.cw r) b o cap
  ccw : ∀ r, r < c.nr → w.cell? ⟨c.RB, r * 47 + 22, none⟩ = some (.slice none 0 0)
  mSus : MapAt w c.SU c.sus
  mWat : MapAt w c.WA []
structure Ok (c : Cfg) : Prop where
  nr : 0 < c.nr
  nr2 : c.nr ≤ 2
  x : c.x ≤ 2
  f : c.f ≤ 2
  self : c.self.length = 20
  sus : ∀ e ∈ c.sus, ∃ a, e.2 = .pointer (some a)
theorem rangeAt_gr {w w' : World} (g : Gr w w') {b o : Nat} {l : List Value} (h : w.rangeAt b o l) : w'.rangeAt b o l := fun j v hj => g.cell (World.block_lt_of_cell? _ _ (h j v hj)) (h j v hj)
theorem cell_gr {w w' : World} (g : Gr w w') {a : Addr} {v : Value} (h : w.cell? a = some v) : w'.cell? a = some v := g.cell (World.block_lt_of_cell? _ _ h) h
theorem PeersAt.gr {w w' : World} (g : Gr w w') {v : Value} {ids : List (List UInt8)} {b o cap : Nat} (h : PeersAt w v ids b o cap) : PeersAt w' v ids b o cap := ⟨h.val, h.len, fun i l hl => rangeAt_gr g (h.row i l hl)⟩
theorem Mem.gr {c : Cfg} {w w' : World} (h : Mem c w) (g : Gr w w') : Mem c w' :=
  ⟨cell_gr g h.rings, cell_gr g h.susp, cell_gr g h.watch, cell_gr g h.lay, h.layout.gr g, fun r hr => rangeAt_gr g (h.leaf r hr), fun r hr => by
    obtain ⟨v, b, o, cap, h1, h2⟩ := h.cwAt r hr
    exact ⟨v, b, o, cap, cell_gr g h1, h2.gr g⟩, fun r hr => cell_gr g (h.ccw r hr), h.mSus.gr g, h.mWat.gr g⟩

set_option maxHeartbeats 4000000 in
set_option maxRecDepth 1000000 in
theorem hasGroups_calls (c : Cfg) (ok : Ok c) (w : World) (h : Mem c w) : Calls Yba.prog 70 #[.pointer (some ⟨c.MB, 0, none⟩)] w fun e w' => e = .returned (.bool true) ∧ Gr w w' := by
  have h1 := h.rings
  have h2 := h.lay
  have hn := ok.nr
  have hn' : ¬ c.nr = 0 := by omega
  clear h
  go_enter Yba.func70, Yba.ntmps70
  go_wp2
  go_ret
  exact ⟨rfl, Gr.refl _⟩

set_option maxHeartbeats 4000000 in
set_option maxRecDepth 1000000 in
theorem layout_calls (c : Cfg) (ok : Ok c) (w : World) (h : Mem c w) : Calls Yba.prog 42 #[.pointer (some ⟨c.MB, 0, none⟩)] w fun e w' => e = .returned (.agg (layV c.x c.f c.t)) ∧ Gr w w' := by
  obtain ⟨S, hS⟩ : ∃ S, S = w.heap.size := ⟨_, rfl⟩
  obtain ⟨w1, hw1⟩ : ∃ w1, w1 = w.alloc (.cells (layV 0 0 0) 51) := ⟨_, rfl⟩
  have g1 : Gr w w1 := by rw [hw1]; exact (Gr.refl w).alloc _
  have m1 := h.gr g1
  have h1 := m1.rings
  have h2 := m1.lay
  have a0 : At w1 S (layV 0 0 0) 51 := by rw [hw1, hS]; exact At.new w _ _
  have l0 := m1.layout.cell 0
  have l1 := m1.layout.cell 1
  have l2 := m1.layout.cell 2
  have z0 := a0.cell 0
  have z1 := a0.cell 1
  have z2 := a0.cell 2
  have f0 := a0.frozen 0
  have f1 := a0.frozen 1
  have f2 := a0.frozen 2
  simp [layV] at l0 l1 l2 z0 z1 z2
  have F : Hid (At (((w1.setCell ⟨S, 0, none⟩ (.int .i64 c.x)).setCell ⟨S, 1, none⟩ (.int .i64 c.f)).setCell ⟨S, 2, none⟩ (.int .i64 c.t)) S (layV c.x c.f c.t) 51) := by
    show At _ _ _ _
    have := ((a0.set 0 (.int .i64 c.x)).set 1 (.int .i64 c.f)).set 2 (.int .i64 c.t)
    simpa [layV] using this
  have g3 : Hid (Gr w (((w1.setCell ⟨S, 0, none⟩ (.int .i64 c.x)).setCell ⟨S, 1, none⟩ (.int .i64 c.f)).setCell ⟨S, 2, none⟩ (.int .i64 c.t))) := ((g1.setCell _ _ (by rw [hS]; exact Nat.le_refl _)).setCell _ _ (by rw [hS]; exact Nat.le_refl _)).setCell _ _ (by rw [hS]; exact Nat.le_refl _)
  have hn := ok.nr
  have hn' : ¬ c.nr = 0 := by omega
  have HW : Hid (w1 = w.alloc (.cells #[.int .i64 0, .int .i64 0, .int .i64 0] 51)) := hw1
  have HS := hide hS
  have hi : (Yba.prog.info? 51).map (·.size) = some (layV c.x c.f c.t).size := by kernel_rfl
  have HI := hide hi
  clear h m1 a0 hw1 hS g1 hi
  go_enter Yba.func42, Yba.ntmps42
  go_upto_region 1 with fail
  rw [← HW.out, ← HS.out]
  go_wp2
  refine bodyPost_ret_by (results_cell_row (P := Yba.prog) (p := 2) (ty := 51) rfl _ _ S 51 (layV c.x c.f c.t) _ _ rfl F.out Yba.underlying51 rfl HI.out) rfl ?_
  exact ⟨rfl, g3.out⟩

def inG (c : Cfg) (r : Nat) (v : List UInt8) : Bool := decide (prefY v (viewL c.f r c.self) c.x = 0)
set_option maxHeartbeats 4000000 in
set_option maxRecDepth 1000000 in
theorem inGroupAt_calls (c : Cfg) (ok : Ok c) (w : World) (h : Mem c w) (r : Nat) (hr : r < c.nr) (v : List UInt8) (hv : v.length = 20) :
    Calls Yba.prog 41 #[.pointer (some ⟨c.MB, 0, none⟩), .int .i64 (r : Int), .agg (idV v).toArray] w fun e w' => e = .returned (.bool (inG c r v)) ∧ Gr w w' := by
  have mixed : Yba.prog.follows .mixedOrders = true := by kernel_rfl
  obtain ⟨S, hS⟩ : ∃ S, S = w.heap.size := ⟨_, rfl⟩
  obtain ⟨w1, hw1⟩ : ∃ w1, w1 = w.alloc (.cells (idV v).toArray 37) := ⟨_, rfl⟩
  have g1 : Gr w w1 := by rw [hw1]; exact (Gr.refl w).alloc _
  have m1 := h.gr g1
  have aV : At w1 S (idV v).toArray 37 := by rw [hw1, hS]; exact At.new w _ _
  have hls : (viewL c.f r c.self).length = 20 := length_viewL _ _ _ ok.self
  have LV := hide (fun k os => idload ((aV.gr ((Gr.refl w1).grown k os)).all) hv)
  have LS := hide (fun k os => idload ((m1.gr ((Gr.refl w1).grown k os)).leaf r hr) hls)
  have HG := hide (fun k os => hasGroups_calls c ok _ (m1.gr ((Gr.refl w1).grown k os)))
  have HL := hide (fun k os => layout_calls c ok _ (m1.gr ((Gr.refl w1).grown k os)))
  have ht := fun k os => together_calls (grow (w1.drewN k) os) c.x c.f c.t v (viewL c.f r c.self) hv hls c.x rfl (by have := ok.x; omega)
  have h1 := fun k os => (m1.gr ((Gr.refl w1).grown k os)).rings
  obtain ⟨y, hy⟩ : ∃ y, inG c r v = y := ⟨_, rfl⟩
  have HY := hide hy
  unfold inG at hy
  rw [hy] at ht
  have HT := hide ht
  have HW := hide hw1
  have HS := hide hS
  have HGr := hide g1
  have hrz : (r : Int) < (c.nr : Int) := by omega
  have hrz0 : (0 : Int) ≤ (r : Int) := by omega
  generalize viewL c.f r c.self = ls at *
  generalize layV c.x c.f c.t = L at *
  clear h m1 aV hw1 hS g1 ht hy
  go_enter Yba.func41, Yba.ntmps41
  go_upto_region 1 with fail
  rw [← HW.out, ← HS.out]
  refine wp_region_quiet_grown (by assumption) (by kernel_rfl) ?_
  quiet_step (fail)
  quiet_step ((go_at_call 70; refine Calls.grown_of' (HG.out _ _)))
  iterate 2 quiet_step (fail)
  quiet_step ((go_at_call 42; refine Calls.grown_of' (HL.out _ _)))
  go_big_quiet_want
  refine quiet_load_run 37 _ rfl _ _ rfl _ (fun w' hw' => by obtain ⟨p, rfl⟩ := hw'; exact LV.out _ _) ?_
  simp only [Act.put, List.setIfInBounds_toArray, List.set_cons_zero, List.set_cons_succ]
  go_big_quiet_on
  iterate 8 quiet_step (fail)
  go_big_quiet_want
  refine quiet_load_run 37 _ rfl _ _ rfl _ (fun w' hw' => by obtain ⟨p, rfl⟩ := hw'; exact LS.out _ _) ?_
  simp only [Act.put, List.setIfInBounds_toArray, List.set_cons_zero, List.set_cons_succ]
  go_big_quiet_on
  quiet_step ((go_at_call 71; refine Calls.grown_of' (HT.out _ _)))
  iterate 2 quiet_step (fail)
  refine wpQuiet_nil ?_
  intro _ hw'
  obtain ⟨⟨nq, osq⟩, hw''⟩ := hw'
  subst hw''
  have HG2 := hide (HGr.out.grown nq osq)
  clear LV LS HG HL HT h1
  go_wp2
  go_ret
  exact ⟨by rw [HY.out]; rfl, HG2.out⟩

set_option maxHeartbeats 4000000 in
set_option maxRecDepth 1000000 in
theorem inGroup_calls (c : Cfg) (ok : Ok c) (w : World) (h : Mem c w) (r : Nat) (hr : r < c.nr) (v : List UInt8) (hv : v.length = 20) :
    Calls Yba.prog 25 #[.pointer (some ⟨c.MB, 0, none⟩), .int .i64 (r : Int), .agg (idV v).toArray] w fun e w' => e = .returned (.bool (inG c r (viewL c.f r v))) ∧ Gr w w' := by
  have mixed : Yba.prog.follows .mixedOrders = true := by kernel_rfl
  obtain ⟨S, hS⟩ : ∃ S, S = w.heap.size := ⟨_, rfl⟩
  obtain ⟨w1, hw1⟩ : ∃ w1, w1 = w.alloc (.cells (idV v).toArray 37) := ⟨_, rfl⟩
  have g1 : Gr w w1 := by rw [hw1]; exact (Gr.refl w).alloc _
  have m1 := h.gr g1
  have aV : At w1 S (idV v).toArray 37 := by rw [hw1, hS]; exact At.new w _ _
  have hvl : (viewL c.f r v).length = 20 := length_viewL _ _ _ hv
  have LV := hide (fun k os => idload ((aV.gr ((Gr.refl w1).grown k os)).all) hv)
  have HL := hide (fun k os => layout_calls c ok _ (m1.gr ((Gr.refl w1).grown k os)))
  have HV := hide (fun k os => view_calls (grow (w1.drewN k) os) c.x c.t c.f ok.f v hv r)
  have ht := fun k os => inGroupAt_calls c ok _ (m1.gr ((Gr.refl w1).grown k os)) r hr (viewL c.f r v) hvl
  obtain ⟨y, hy⟩ : ∃ y, inG c r (viewL c.f r v) = y := ⟨_, rfl⟩
  rw [hy] at ht ⊢
  have HT := hide ht
  have HW := hide hw1
  have HS := hide hS
  have HGr := hide g1
  generalize viewL c.f r v = vl at *
  generalize layV c.x c.f c.t = L at *
  clear h m1 aV hw1 hS g1 ht hy
  go_enter Yba.func25, Yba.ntmps25
  go_upto_region 1 with fail
  rw [← HW.out, ← HS.out]
  refine wp_region_quiet_grown (by assumption) (by kernel_rfl) ?_
  iterate 3 quiet_step (fail)
  quiet_step ((go_at_call 42; refine Calls.grown_of' (HL.out _ _)))
  quiet_step (fail)
  refine wpQuiet_load_mid rfl 37 _ rfl _ _ rfl _ (fun w' hw' => by obtain ⟨p, rfl⟩ := hw'; exact LV.out _ _) ?_
  quiet_step ((go_at_call 22; refine Calls.grown_of' (HV.out _ _)))
  quiet_step ((go_at_call 41; refine Calls.grown_of' (HT.out _ _)))
  quiet_step (fail)
  refine wpQuiet_nil ?_
  intro _ hw'
  obtain ⟨⟨nq, osq⟩, hw''⟩ := hw'
  subst hw''
  have HG2 := hide (HGr.out.grown nq osq)
  clear LV HL HT HV
  go_wp2
  go_ret
  exact ⟨rfl, HG2.out⟩

/-! ### suspected, silent -/
def ptrB : Value → Bool
  | .pointer (some _) => true
  | _ => false
def susB (c : Cfg) (v : List UInt8) : Bool := ptrB (findE v c.sus)
theorem findE_ptr (v : List UInt8) : ∀ es : List (List UInt8 × Value), (∀ e ∈ es, ∃ a, e.2 = .pointer (some a)) → findE v es = .pointer none ∨ ∃ a, findE v es = .pointer (some a)
  | [], _ => .inl rfl
  | e :: es, h => by
    unfold findE
    split
    · exact .inr (h e (List.mem_cons_self ..))
    · exact findE_ptr v es (fun x hx => h x (List.mem_cons_of_mem _ hx))

theorem quiet_lookup_run {P : Program} {C : World → Prop} {o : Oper} {a : Act} {K : Act → Prop} (t : TypeId) (x y : Operand) (ho : o.op = .lookup t x y false)
    (m k : Value) (hx : a.eval x = m) (hy : a.eval y = k) (v : Value) (hr : ∀ w', C w' → (Instr.lookup t m k false).run P w' = .ok v w') (h : K (a.put o.dst v)) : o.quiet P a C K :=
  ⟨v, fun w' hw' => by
    unfold Oper.quietAt execOp
    simp only [ho, hx, hy, Sem.run_bind, Sem.run_pure, Result.andThen_ok, hr w' hw']
    exact ⟨rfl, rfl⟩, h⟩
end Go.Proofs.Ybulkapqu
